/- Texts of this claim, one behind the other (merged by wip/prune.py of this repo, without what the proof does not use): TPan3, TPan4, TPan5, TScriptF, TScript, LName, LRun, LUpd, PLit, LTrail, LNameKey, LPlayed, TSay, GAlike, GAlikeAll, PlayedM. -/
import Derived.Test.YtoimkmoalmmooaaZY2
import Derived.Test.YtoimkmoalmmooaaZY3
import Derived.Test.YtoimkmoalmmooaaZY4
import Derived.Test.YtoimkmoalmmooaaZY5
import Derived.Test.YtoimkmoalmmooaaZY6
import Derived.Test.YtoimkmoalmmooaaZY9
import Derived.Test.YtoimkmoalmmooaaZY10
import Derived.Test.YtoimkmoalmmooaaZY17
import Derived.Test.YtoimkmoalmmooaaZY18
import Derived.Test.YtoimkmoalmmooaaZY19
set_option linter.unusedVariables false
set_option linter.unusedSimpArgs false
namespace Go.Proofs.Ytoimkmoalmmooaa.Own
open Go.RowKit Go.Proofs.YtoimkmoalmmooaaW.PrintWords Go.Proofs.YtoimkmoalmmooaaW.PrintLast Go.Proofs.YtoimkmoalmmooaaW.PrintMore Go.Proofs.Ytoimkmoalmmooaa.Base Go.Proofs.Ytoimkmoalmmooaa.Gv Go.Proofs.Ytoimkmoalmmooaa.QA Go.Proofs.Ytoimkmoalmmooaa.Given
def SetP (l : Nat → Nat) (w : World) (q zl : Nat) (e : Ending) (w' : World) : Prop := PanE e ∧ ∃ l1, Stp (fun lab => Tz q lab ∨ lab = zl) l l1 w w'
theorem dropW_nil {α : Type} (p : α → Bool) : ∀ l : List α, l.dropWhile p = [] → ∀ x ∈ l, p x = true
  | [], _ => by simp
  | y :: t, h => by
    rw [List.dropWhile_cons] at h
    by_cases hy : p y = true
    · rw [if_pos hy] at h
      intro x hx
      rcases List.mem_cons.1 hx with rfl | hx
      · exact hy
      · exact dropW_nil p t h x hx
    · rw [if_neg hy] at h; cases h
theorem trim_blank : ∀ (L : List Int), trimR (trimL L) = [] → ∀ x ∈ L, x = 32
  | [], _ => by simp
  | x :: t, h => by
    by_cases hx : x = 32
    · subst hx
      rw [trimL_sp] at h
      intro y hy
      rcases List.mem_cons.1 hy with rfl | hy
      · rfl
      · exact trim_blank t h y hy
    · rw [trimL_hd _ _ hx] at h
      unfold trimR at h
      rw [List.reverse_eq_nil_iff] at h
      have := dropW_nil _ _ h x (by simp)
      exact absurd (by simpa using this) hx
set_option maxHeartbeats 4000000 in
set_option maxRecDepth 100000 in
theorem tSetT_panics (l : Nat → Nat) (w : World) (q p n : Nat) (V kv vv : Value) (S : List Slot) (kx vx : List Int) (dn : Bool) (h : TrC l w q p V n S kv kx vv vx dn) (zl g c : Nat) (hz : ¬ Tz q zl) (hg : l g = zl) (xs : List Int) (hx : ∀ x ∈ xs, 0 ≤ x ∧ x ≤ 255) (hbr : BrO w 5 g 0 xs) (hc : xs.length ≤ c) (hl : xs.length ≤ 1099511627775) (f0 : Nat) (hf0 : xs.length ≤ f0) (hgo : setGo dn f0 xs [] false = none) :
  Calls Try.prog 45 #[.pointer (some ⟨p, 0, none⟩), .slice (some ⟨g, 0, none⟩) xs.length c] w fun e w' => SetP l w q zl e w' := by
 have HRS := Lib.hid (tResetSkip_calls l w q p n V kv vv S kx vx dn h)
 obtain ⟨XN, hXN⟩ : ∃ n, xs.length = n := ⟨_, rfl⟩
 rw [hXN] at hc hl ⊢
 have HXN := Lib.hid hXN
 have HZ := Lib.hid hz
 have HG := Lib.hid hg
 have HX := Lib.hid hx
 have HBR := Lib.hid hbr
 have HC := Lib.hid hc
 have HXL := Lib.hid hl
 have HGO := Lib.hid hgo
 have HF0 := Lib.hid hf0
 clear hf0
 clear h hz hg hx hbr hc hl hgo hXN
 go_enter Try.func45, Try.ntmps45
 go_wp2_with (
  go_at_call 63
  refine HRS.out.mono ?_
  rintro e w1 ⟨V1, rfl, h1, h2⟩
  have H1 := Lib.hid h1
  have H2 := Lib.hid h2
  clear h1 h2)
 go_loopw [1, 4, 5, 6] (fun tv ev iv _ wr => ∃ (o N C d n1 f : Nat) (i : Int) (ys : List Int) (acc : List KVx) (b : Bool), tv = .slice (some ⟨g, o, none⟩) N C ∧ iv = .int .i64 i ∧ Hid (i + 1 = (d : Int)) ∧ Hid (N ≤ C) ∧ Hid (ys.length = N - d) ∧ Hid (BrO wr 5 g (o + d) ys) ∧ Hid (setGo dn f ys acc b = none) ∧ Hid (ys.length ≤ f) ∧ Hid (ErrV b ev) ∧ Hid (MidT l w q p kv vv kx vx dn zl g n1 acc wr) ∧ Hid (n1 + ys.length ≤ XN) ∧ Hid (∀ x ∈ ys, 0 ≤ x ∧ x ≤ 255) ∧ Hid (N ≤ XN ∧ d ≤ N + 1)) (fun tv _ iv _ _ => lenV tv - (intOf iv + 1).toNat)
 case atStart =>
  refine ⟨0, XN, c, 0, 0, f0, -1, xs, [], false, rfl, rfl, Lib.hid (by omega), HC, Lib.hid (by have := HXN.out; omega), Lib.hid (HBR.out.same (H2.out.block g HBR.out.lt (by rw [HG.out]; exact HZ.out))), HGO, HF0, Lib.hid (.inr ⟨rfl, rfl⟩), Lib.hid ⟨l, V1, S, H1.out, rfl, H2.out.mono (fun _ k => .inl k), HG.out⟩, Lib.hid (by have := HXN.out; omega), HX, Lib.hid ⟨Nat.le_refl _, by omega⟩⟩
 case round =>
  obtain ⟨o, N, C, d, n1, f, i, ys, acc, b, rfl, rfl, HI, HNC, HYL, HB, HGO, HFL, HEV, HM, HN1, HYR, HNX⟩ := hrel
  have hi := HI.out
  have hnb := HNX.out
  have hxb := HXL.out
  have hi1 : -1 ≤ i := by omega
  have hi2 : i ≤ 1099511627776 := by omega
  cases hys : ys with
  | nil =>
   subst hys
   have := HGO.out
   have e1 : setGo dn f [] acc b = some (acc, b) := by cases f <;> rfl
   rw [e1] at this
   cases this
  | cons y ys' =>
   rw [hys] at HYL HB HGO HN1 HYR HFL
   clear hys
   obtain ⟨YS, hYS⟩ : ∃ Y, y :: ys' = Y := ⟨_, rfl⟩
   have hne : YS ≠ [] := by rw [← hYS]; simp
   cases f with
   | zero => have := HFL.out; simp at this
   | succ f =>
   have hgo := HGO.out
   rw [setGo] at hgo
   rw [hYS] at HYL HB HN1 HYR HFL hgo
   clear HGO hYS
   by_cases hke : keyT dn YS = []
   ·have hlen := HYL.out
    have hpos : 0 < YS.length := by cases YS with
     | nil => exact absurd rfl hne
     | cons _ _ => simp
    have hdN : d < N := by omega
    have hcut := cut8a g o N C d hdN HNC.out
    have p0 : (d : Int) < (N : Int) := by omega
    obtain ⟨CM, hCM⟩ : ∃ m, N - d = m := ⟨_, rfl⟩
    obtain ⟨C1, hC1⟩ : ∃ m, C - d = m := ⟨_, rfl⟩
    obtain ⟨O, hO⟩ : ∃ m, o + d = m := ⟨_, rfl⟩
    rw [hCM] at hlen
    rw [hCM, hC1, hO] at hcut
    rw [hO] at HB
    have HMC := Lib.hid (show CM ≤ C1 by have := HNC.out; omega)
    have HCMX := Lib.hid (show CM ≤ XN ∧ CM = N - d by omega)
    obtain ⟨m, hm⟩ : ∃ m, cutI YS = m := ⟨_, rfl⟩
    have hmle : m ≤ CM := by rw [← hm, ← hlen]; exact cutI_le YS
    have hix := bytes_IndexByte_calls wr (some ⟨g, O, none⟩) C1 YS 44 HYR.out (by decide) (by decide) (HB.out.reads (by omega))
    rw [hlen] at hix
    have hir := idx_range YS 44
    rw [hlen] at hir
    obtain ⟨J, hJ⟩ : ∃ j, idx YS 44 = j := ⟨_, rfl⟩
    rw [hJ] at hix hir
    have hJm : (J = -1 ∧ m = CM) ∨ (0 ≤ J ∧ J = (m : Int)) := by
     unfold cutI at hm
     rw [hJ] at hm
     by_cases hj : J = -1
     ·rw [if_pos hj] at hm; exact .inl ⟨hj, by omega⟩
     ·rw [if_neg hj] at hm; exact .inr ⟨by omega, by omega⟩
    have HIX := Lib.hid hix
    -- the key, cut and trimmed
    obtain ⟨L, hL⟩ : ∃ L, YS.take m = L := ⟨_, rfl⟩
    have HLm := Lib.hid (show L.length = m by rw [← hL, List.length_take]; omega)
    have HBL := Lib.hid (show BrO wr 5 g O L by rw [← hL]; exact HB.out.take m)
    have HRL := Lib.hid (show ∀ x ∈ L, 0 ≤ x ∧ x ≤ 255 from fun x k => HYR.out x (by rw [← hL] at k; exact List.mem_of_mem_take k))
    have HN2 := Lib.hid (show n1 + CM ≤ XN by have := HN1.out; omega)
    have hcuth := cut8h (some ⟨g, O, none⟩) CM C1 m hmle HMC.out
    have hmb : m ≤ 1099511627775 := by omega
    have hcb : CM ≤ 1099511627775 := by omega
    have hlb : ∀ x ∈ L, x = 32 := by
     refine trim_blank L ?_
     have h1 : nkd dn (trimR (trimL (YS.take (cutI YS)))) = [] := hke
     rw [hm, hL] at h1
     exact List.eq_nil_of_length_eq_zero (by have := congrArg List.length h1; rw [nkd_length] at this; exact this)
    have HLB := Lib.hid hlb
    obtain ⟨l1, V1, S1, hT, hacc, hst, hgl⟩ := HM.out
    obtain ⟨x4, _⟩ := hT.c4
    have HST := Lib.hid hst
    have HGL := Lib.hid hgl
    clear hT hacc hst hgl hlb hgo hke hlen hpos hdN hCM hC1 hO hm hix hir hJ hL hne hnb hxb
    rcases hJm with ⟨rfl, hmc⟩ | ⟨hj0, rfl⟩
    ·subst hmc
     have j0 : decide ((-1 : Int) < 0) = true := rfl
     go_upto_region 9 with (
      go_at_call 64
      refine HIX.out.mono ?_
      rintro e w2 ⟨rfl, hw2⟩
      obtain rfl : wr = w2 := hw2.symm)
     go_loopw [6] (fun kv wi => ∃ (o1 M1 C2 : Nat) (L1 : List Int), kv = .slice (some ⟨g, o1, none⟩) M1 C2 ∧ wi = wr ∧ M1 ≤ m ∧ Hid (M1 = L1.length) ∧ Hid (M1 ≤ C2) ∧ Hid (BrO wr 5 g o1 L1) ∧ Hid (∀ x ∈ L1, x = 32)) (fun kv _ => lenV kv)
     case atStart => exact ⟨O, m, C1, L, rfl, rfl, Nat.le_refl _, Lib.hid HLm.out.symm, Lib.hid (by have := HMC.out; omega), HBL, HLB⟩
     case round =>
      obtain ⟨o1, M1, C2, L1, rfl, hwi, hle1, HM1, HC2, HB1, HR1⟩ := hrel
      subst hwi
      cases hl1 : L1 with
      | nil =>
       have hM0 : M1 = 0 := by have := HM1.out; rw [hl1] at this; simpa using this
       subst hM0
       rw [hl1] at HB1
       clear hl1
       go_upto_region 11 with fail
       go_loopw [6] (fun kv wj => kv = .slice (some ⟨g, o1, none⟩) 0 C2 ∧ wj = wr) (fun kv _ => lenV kv)
       case atStart => exact ⟨rfl, rfl⟩
       case round =>
        obtain ⟨rfl, hwj⟩ := hrel
        subst hwj
        go_upto_region 14 with (
         go_at_call 60
         refine (nhkd_calls wr g o1 0 C2 [] dn rfl (fun x k => by simp at k) (by omega) HB1.out).mono ?_
         rintro e w3 ⟨rfl, hb3, ho3⟩
         have HO3 := Lib.hid ho3
         clear hb3 ho3)
        go_wp2_with (
         go_at_call 59
         refine (tAddB_panics _ _ _ _ _ _ _ _).mono ?_
         rintro e w4 ⟨⟨u, v, rfl⟩, rfl⟩)
        have hfin : Stp (fun lab => Tz q lab ∨ lab = zl) l l1 w w3.drew := (HST.out.trans ((HO3.out.stp l1).mono (fun _ e => .inr (e.trans HGL.out)))).trans (drew_stp _ l1 w3 1)
        first | exact ⟨rfl, ⟨u, v, rfl⟩, _, hfin⟩ | exact ⟨rfl, ⟨⟨u, v, rfl⟩, _, hfin⟩⟩
      | cons b1 L2 =>
       rw [hl1] at HM1 HB1 HR1
       clear hl1
       have y0 : wr.cell? ⟨g, o1, none⟩ = some (.int .u8 b1) := HB1.out.cell 0 (by simp)
       obtain rfl : b1 = 32 := HR1.out b1 (by simp)
       have hM1 : 0 < M1 := by have := HM1.out; simp at this; omega
       have p1 : (0 : Int) < (M1 : Int) := by omega
       obtain ⟨o2, hcut1, hb2⟩ : ∃ o2, (∀ W, (Instr.slice 54 (.slice (some ⟨g, o1, none⟩) M1 C2) (some (.int .i64 1)) none none).run Try.prog W = .ok (.slice (some ⟨g, o2, none⟩) (M1 - 1) (C2 - 1)) W) ∧ BrO wr 5 g o2 L2 := by
        by_cases hc1 : C2 = 1
        ·refine ⟨o1, fun W => ?_, ?_⟩
         ·have := cut8 (some ⟨g, o1, none⟩) M1 C2 1 (by omega) W
          rw [if_pos hc1] at this
          exact this
         ·have h0 : L2.length = 0 := by have h1 := HM1.out; have h2 := HC2.out; rw [List.length_cons] at h1; omega
          rw [List.eq_nil_of_length_eq_zero h0]
          have := HB1.out.take 0
          exact this
        ·refine ⟨o1 + 1, fun W => ?_, HB1.out.drop 1⟩
         have := cut8 (some ⟨g, o1, none⟩) M1 C2 1 (by omega) W
         rw [if_neg hc1] at this
         rw [show (some (⟨g, o1, none⟩ : Addr)).map (·.add 1) = some ⟨g, o1 + 1, none⟩ from by rw [Option.map_some, Addr.add_lit]] at this
         exact this
       have HBn := Lib.hid hb2
       have HRn := Lib.hid (show ∀ x ∈ L2, x = 32 from fun x k => HR1.out x (List.mem_cons_of_mem _ k))
       clear hb2
       go_wp2
       go_roundw
       case rel => exact ⟨o2, M1 - 1, C2 - 1, L2, rfl, by first | rfl | trivial, by omega, Lib.hid (by have := HM1.out; rw [List.length_cons] at this; omega), Lib.hid (by have := HC2.out; omega), HBn, HRn⟩
       case measure => simp [lenV]; omega
    ·have j0 : decide ((m : Int) < 0) = false := decide_eq_false (by omega)
     clear hj0
     go_upto_region 9 with (
      go_at_call 64
      refine HIX.out.mono ?_
      rintro e w2 ⟨rfl, hw2⟩
      obtain rfl : wr = w2 := hw2.symm)
     go_loopw [6] (fun kv wi => ∃ (o1 M1 C2 : Nat) (L1 : List Int), kv = .slice (some ⟨g, o1, none⟩) M1 C2 ∧ wi = wr ∧ M1 ≤ m ∧ Hid (M1 = L1.length) ∧ Hid (M1 ≤ C2) ∧ Hid (BrO wr 5 g o1 L1) ∧ Hid (∀ x ∈ L1, x = 32)) (fun kv _ => lenV kv)
     case atStart => exact ⟨O, m, C1, L, rfl, rfl, Nat.le_refl _, Lib.hid HLm.out.symm, Lib.hid (by have := HMC.out; omega), HBL, HLB⟩
     case round =>
      obtain ⟨o1, M1, C2, L1, rfl, hwi, hle1, HM1, HC2, HB1, HR1⟩ := hrel
      subst hwi
      cases hl1 : L1 with
      | nil =>
       have hM0 : M1 = 0 := by have := HM1.out; rw [hl1] at this; simpa using this
       subst hM0
       rw [hl1] at HB1
       clear hl1
       go_upto_region 11 with fail
       go_loopw [6] (fun kv wj => kv = .slice (some ⟨g, o1, none⟩) 0 C2 ∧ wj = wr) (fun kv _ => lenV kv)
       case atStart => exact ⟨rfl, rfl⟩
       case round =>
        obtain ⟨rfl, hwj⟩ := hrel
        subst hwj
        go_upto_region 14 with (
         go_at_call 60
         refine (nhkd_calls wr g o1 0 C2 [] dn rfl (fun x k => by simp at k) (by omega) HB1.out).mono ?_
         rintro e w3 ⟨rfl, hb3, ho3⟩
         have HO3 := Lib.hid ho3
         clear hb3 ho3)
        go_wp2_with (
         go_at_call 59
         refine (tAddB_panics _ _ _ _ _ _ _ _).mono ?_
         rintro e w4 ⟨⟨u, v, rfl⟩, rfl⟩)
        have hfin : Stp (fun lab => Tz q lab ∨ lab = zl) l l1 w w3.drew := (HST.out.trans ((HO3.out.stp l1).mono (fun _ e => .inr (e.trans HGL.out)))).trans (drew_stp _ l1 w3 1)
        first | exact ⟨rfl, ⟨u, v, rfl⟩, _, hfin⟩ | exact ⟨rfl, ⟨⟨u, v, rfl⟩, _, hfin⟩⟩
      | cons b1 L2 =>
       rw [hl1] at HM1 HB1 HR1
       clear hl1
       have y0 : wr.cell? ⟨g, o1, none⟩ = some (.int .u8 b1) := HB1.out.cell 0 (by simp)
       obtain rfl : b1 = 32 := HR1.out b1 (by simp)
       have hM1 : 0 < M1 := by have := HM1.out; simp at this; omega
       have p1 : (0 : Int) < (M1 : Int) := by omega
       obtain ⟨o2, hcut1, hb2⟩ : ∃ o2, (∀ W, (Instr.slice 54 (.slice (some ⟨g, o1, none⟩) M1 C2) (some (.int .i64 1)) none none).run Try.prog W = .ok (.slice (some ⟨g, o2, none⟩) (M1 - 1) (C2 - 1)) W) ∧ BrO wr 5 g o2 L2 := by
        by_cases hc1 : C2 = 1
        ·refine ⟨o1, fun W => ?_, ?_⟩
         ·have := cut8 (some ⟨g, o1, none⟩) M1 C2 1 (by omega) W
          rw [if_pos hc1] at this
          exact this
         ·have h0 : L2.length = 0 := by have h1 := HM1.out; have h2 := HC2.out; rw [List.length_cons] at h1; omega
          rw [List.eq_nil_of_length_eq_zero h0]
          have := HB1.out.take 0
          exact this
        ·refine ⟨o1 + 1, fun W => ?_, HB1.out.drop 1⟩
         have := cut8 (some ⟨g, o1, none⟩) M1 C2 1 (by omega) W
         rw [if_neg hc1] at this
         rw [show (some (⟨g, o1, none⟩ : Addr)).map (·.add 1) = some ⟨g, o1 + 1, none⟩ from by rw [Option.map_some, Addr.add_lit]] at this
         exact this
       have HBn := Lib.hid hb2
       have HRn := Lib.hid (show ∀ x ∈ L2, x = 32 from fun x k => HR1.out x (List.mem_cons_of_mem _ k))
       clear hb2
       go_wp2
       go_roundw
       case rel => exact ⟨o2, M1 - 1, C2 - 1, L2, rfl, by first | rfl | trivial, by omega, Lib.hid (by have := HM1.out; rw [List.length_cons] at this; omega), Lib.hid (by have := HC2.out; omega), HBn, HRn⟩
       case measure => simp [lenV]; omega
   ·have hkn : ¬ keyT dn YS = [] := hke
    clear hke
    rw [if_neg hkn] at hgo
    have hlen := HYL.out
    have hpos : 0 < YS.length := by cases YS with
     | nil => exact absurd rfl hne
     | cons _ _ => simp
    have hdN : d < N := by omega
    have hcut := cut8a g o N C d hdN HNC.out
    have p0 : (d : Int) < (N : Int) := by omega
    obtain ⟨CM, hCM⟩ : ∃ m, N - d = m := ⟨_, rfl⟩
    obtain ⟨C1, hC1⟩ : ∃ m, C - d = m := ⟨_, rfl⟩
    obtain ⟨O, hO⟩ : ∃ m, o + d = m := ⟨_, rfl⟩
    rw [hCM] at hlen
    rw [hCM, hC1, hO] at hcut
    rw [hO] at HB
    have HMC := Lib.hid (show CM ≤ C1 by have := HNC.out; omega)
    have HCMX := Lib.hid (show CM ≤ XN ∧ CM = N - d by omega)
    obtain ⟨m, hm⟩ : ∃ m, cutI YS = m := ⟨_, rfl⟩
    have hmle : m ≤ CM := by rw [← hm, ← hlen]; exact cutI_le YS
    have hix := bytes_IndexByte_calls wr (some ⟨g, O, none⟩) C1 YS 44 HYR.out (by decide) (by decide) (HB.out.reads (by omega))
    rw [hlen] at hix
    have hir := idx_range YS 44
    rw [hlen] at hir
    obtain ⟨J, hJ⟩ : ∃ j, idx YS 44 = j := ⟨_, rfl⟩
    rw [hJ] at hix hir
    have hJm : (J = -1 ∧ m = CM) ∨ (0 ≤ J ∧ J = (m : Int)) := by
     unfold cutI at hm
     rw [hJ] at hm
     by_cases hj : J = -1
     ·rw [if_pos hj] at hm; exact .inl ⟨hj, by omega⟩
     ·rw [if_neg hj] at hm; exact .inr ⟨by omega, by omega⟩
    have HIX := Lib.hid hix
    -- the key, cut and trimmed
    obtain ⟨L, hL⟩ : ∃ L, YS.take m = L := ⟨_, rfl⟩
    have HLm := Lib.hid (show L.length = m by rw [← hL, List.length_take]; omega)
    obtain ⟨K0, hK0⟩ : ∃ K, trimR (trimL L) = K := ⟨_, rfl⟩
    have hkey : keyT dn YS = nkd dn K0 := by unfold keyT; rw [hm, hL, hK0]
    have HKEY := Lib.hid hkey
    have HKN := Lib.hid (show K0 ≠ [] by intro k; rw [k] at hkey; exact hkn (hkey.trans (List.eq_nil_of_length_eq_zero (by rw [nkd_length]; rfl))))
    have HBL := Lib.hid (show BrO wr 5 g O L by rw [← hL]; exact HB.out.take m)
    have HYS' := Lib.hid (show BrO wr 5 g (O + (m + 1)) (YS.drop (m + 1)) from HB.out.drop (m + 1))
    have HRL := Lib.hid (show ∀ x ∈ L, 0 ≤ x ∧ x ≤ 255 from fun x k => HYR.out x (by rw [← hL] at k; exact List.mem_of_mem_take k))
    have HRD := Lib.hid (show ∀ x ∈ YS.drop (m + 1), 0 ≤ x ∧ x ≤ 255 from fun x k => HYR.out x (List.mem_of_mem_drop k))
    have HDL := Lib.hid (show (YS.drop (m + 1)).length = CM - (m + 1) by rw [List.length_drop, hlen])
    rw [hm, hkey] at hgo
    obtain ⟨YD, hYD⟩ : ∃ Y, YS.drop (m + 1) = Y := ⟨_, rfl⟩
    rw [hYD] at HYS' HRD HDL hgo
    have HGO2 := Lib.hid hgo
    have HFL2 := Lib.hid (show YD.length ≤ f by have := HFL.out; have := HDL.out; have := HCMX.out; omega)
    have HK0 := Lib.hid hK0
    have HN2 := Lib.hid (show n1 + CM ≤ XN by have := HN1.out; omega)
    have hcuth := cut8h (some ⟨g, O, none⟩) CM C1 m hmle HMC.out
    have hmb : m ≤ 1099511627775 := by omega
    have hcb : CM ≤ 1099511627775 := by omega
    have hm0 : 0 < m := by
     rcases Nat.eq_zero_or_pos m with k | k
     ·exfalso
      have := HLm.out
      rw [k] at this
      rw [List.eq_nil_of_length_eq_zero this] at hK0
      exact HKN.out hK0.symm
     ·exact k
    clear hgo hkn hlen hpos hdN hCM hC1 hO hm hix hir hJ hL hK0 hkey hne hYD hnb hxb
    rcases hJm with ⟨rfl, hmc⟩ | ⟨hj0, rfl⟩
    ·subst hmc
     have j0 : decide ((-1 : Int) < 0) = true := rfl
     go_upto_region 9 with (
      go_at_call 64
      refine HIX.out.mono ?_
      rintro e w2 ⟨rfl, hw2⟩
      obtain rfl : wr = w2 := hw2.symm)
     go_loopw [6] (fun kv wi => ∃ (o1 M1 C2 : Nat) (L1 : List Int), kv = .slice (some ⟨g, o1, none⟩) M1 C2 ∧ wi = wr ∧ 0 < M1 ∧ M1 ≤ m ∧ Hid (M1 = L1.length) ∧ Hid (M1 ≤ C2) ∧ Hid (BrO wr 5 g o1 L1) ∧ Hid (trimR (trimL L1) = K0) ∧ Hid (∀ x ∈ L1, 0 ≤ x ∧ x ≤ 255) ∧ Hid (o1 + M1 = O + m)) (fun kv _ => lenV kv)
     case atStart => exact ⟨O, m, C1, L, rfl, rfl, hm0, Nat.le_refl _, Lib.hid HLm.out.symm, Lib.hid (by have := HMC.out; omega), HBL, HK0, HRL, Lib.hid rfl⟩
     case round =>
      obtain ⟨o1, M1, C2, L1, rfl, hwi, hM1, hle1, HM1, HC2, HB1, HT1, HR1, HE1⟩ := hrel
      subst hwi
      cases hl1 : L1 with
      | nil => exfalso; have := HM1.out; rw [hl1] at this; simp at this; omega
      | cons b1 L2 =>
       rw [hl1] at HM1 HB1 HT1 HR1
       clear hl1
       have y0 : wr.cell? ⟨g, o1, none⟩ = some (.int .u8 b1) := HB1.out.cell 0 (by simp)
       have p1 : (0 : Int) < (M1 : Int) := by omega
       by_cases hb1 : b1 = 32
       ·have hK2 : trimR (trimL L2) = K0 := by have := HT1.out; rw [hb1, trimL_sp] at this; exact this
        have hnz : 1 < M1 := by
         have h1 := HM1.out
         rw [List.length_cons] at h1
         rcases Nat.eq_zero_or_pos L2.length with h0 | h0
         ·exfalso
          rw [List.eq_nil_of_length_eq_zero h0] at hK2
          exact HKN.out hK2.symm
         ·omega
        have hcut1 : ∀ W, (Instr.slice 54 (.slice (some ⟨g, o1, none⟩) M1 C2) (some (.int .i64 1)) none none).run Try.prog W = .ok (.slice (some ⟨g, o1 + 1, none⟩) (M1 - 1) (C2 - 1)) W := cut8a g o1 M1 C2 1 hnz HC2.out
        have HBn := Lib.hid (show BrO wr 5 g (o1 + 1) L2 from HB1.out.drop 1)
        have HRn := Lib.hid (show ∀ x ∈ L2, 0 ≤ x ∧ x ≤ 255 from fun x k => HR1.out x (List.mem_cons_of_mem _ k))
        have HKn := Lib.hid hK2
        clear hK2
        subst hb1
        go_wp2
        go_roundw
        case rel => exact ⟨o1 + 1, M1 - 1, C2 - 1, L2, rfl, by first | rfl | trivial, by omega, by omega, Lib.hid (by have := HM1.out; rw [List.length_cons] at this; omega), Lib.hid (by have := HC2.out; omega), HBn, HKn, HRn, Lib.hid (by have := HE1.out; omega)⟩
        case measure => simp [lenV]; omega
       ·have hbe : (b1 == 32) = false := beq_eq_false_iff_ne.2 hb1
        have HT2 := Lib.hid (show trimR (b1 :: L2) = K0 by have := HT1.out; rw [trimL_hd _ _ hb1] at this; exact this)
        obtain ⟨LL, hLL⟩ : ∃ X, b1 :: L2 = X := ⟨_, rfl⟩
        rw [hLL] at HM1 HB1 HT1 HT2 HR1
        clear hLL
        go_upto_region 11 with fail
        go_loopw [6] (fun kv wj => ∃ (M2 : Nat) (L2 : List Int), kv = .slice (some ⟨g, o1, none⟩) M2 C2 ∧ wj = wr ∧ 0 < M2 ∧ M2 ≤ M1 ∧ Hid (M2 = L2.length) ∧ Hid (BrO wr 5 g o1 L2) ∧ Hid (trimR L2 = K0) ∧ Hid (∀ x ∈ L2, 0 ≤ x ∧ x ≤ 255)) (fun kv _ => lenV kv)
        case atStart => exact ⟨M1, LL, rfl, rfl, hM1, Nat.le_refl _, HM1, HB1, HT2, HR1⟩
        case round =>
         clear y0 p1 hbe
         obtain ⟨M2, L2, rfl, hwj, hM2, hle2, HM2, HB2, HK2, HR2⟩ := hrel
         subst hwj
         obtain ⟨k, hk⟩ : ∃ k, M2 = k + 1 := ⟨M2 - 1, by omega⟩
         have hL2n : L2 ≠ [] := by intro k; have := HM2.out; rw [k] at this; simp at this; omega
         obtain ⟨L3, b, hL3⟩ : ∃ L3 b, L2 = L3 ++ [b] := ⟨L2.dropLast, L2.getLast hL2n, (List.dropLast_concat_getLast hL2n).symm⟩
         have hk3 : L3.length = k := by have := HM2.out; rw [hL3, List.length_append] at this; simp at this; omega
         have y0 : wr.cell? ⟨g, o1 + k, none⟩ = some (.int .u8 b) := by
          have hkl : k < L2.length := by have := HM2.out; omega
          have hd : L2.getD k 0 = b := by rw [hL3, List.getD_eq_getElem?_getD, List.getElem?_append_right (by omega), hk3, Nat.sub_self]; rfl
          rw [HB2.out.cell k hkl, hd]
         have p1 : (0 : Int) < (M2 : Int) := by omega
         have p2 : (M2 : Int) - 1 = (k : Int) := by omega
         have p3 : k < M2 := by omega
         have HKK := Lib.hid hk
         have HK3 := Lib.hid hk3
         have HL3 := Lib.hid hL3
         clear hk3 hL3 hL2n hk
         by_cases hb : b = 32
         ·have hcutk := cut8h (some ⟨g, o1, none⟩) M2 C2 k (by omega) (by have := HC2.out; omega)
          have hnz : 0 < k := by
           rcases Nat.eq_zero_or_pos k with h0 | h0
           ·exfalso
            have := HK2.out
            rw [HL3.out, show L3 = [] from List.eq_nil_of_length_eq_zero (by rw [HK3.out]; exact h0), hb, trimR_sp] at this
            exact HKN.out this.symm
           ·exact h0
          have HB3 := Lib.hid (show BrO wr 5 g o1 L3 by have := HB2.out.take L3.length; rw [HL3.out, List.take_left'] at this; exact this; rfl)
          have HK4 := Lib.hid (show trimR L3 = K0 by have := HK2.out; rw [HL3.out, hb, trimR_sp] at this; exact this)
          have HR3 := Lib.hid (show ∀ x ∈ L3, 0 ≤ x ∧ x ≤ 255 from fun x hx => HR2.out x (by rw [HL3.out]; exact List.mem_append_left _ hx))
          subst hb
          go_wp2
          go_roundw
          case rel => exact ⟨k, L3, rfl, by first | rfl | trivial, hnz, by omega, Lib.hid HK3.out.symm, HB3, HK4, HR3⟩
          case measure => simp [lenV]; omega
         ·have hbe : (b == 32) = false := beq_eq_false_iff_ne.2 hb
          have HKL := Lib.hid (show K0 = L2 by have := HK2.out; rw [HL3.out, trimR_hd _ _ hb, ← HL3.out] at this; exact this.symm)
          obtain ⟨l1, V1, S1, hT, hacc, hst, hgl⟩ := HM.out
          obtain ⟨x4, _⟩ := hT.c4
          have HT := Lib.hid hT
          have HACC := Lib.hid hacc
          have HST := Lib.hid hst
          have HGL := Lib.hid hgl
          clear hT hacc hst hgl
          go_upto_region 14 with (
           go_at_call 60
           refine (nhkd_calls wr g o1 M2 C2 L2 dn HM2.out.symm HR2.out (by omega) HB2.out).mono ?_
           rintro e w3 ⟨rfl, hb3, ho3⟩
           have st3 := ho3.stp l1
           rw [HGL.out] at st3
           have hT3 := HT.out.keep st3 (fun lab e => by rw [e]; exact HZ.out)
           have hys3 := HYS'.out.apart ho3 (by have := HE1.out; omega)
           have HT3 := Lib.hid hT3
           have HB3 := Lib.hid hb3
           have HY3 := Lib.hid hys3
           have HO3 := Lib.hid st3
           clear hT3 hb3 hys3 ho3 x4 st3)
          have hnl : (nkd dn L2).length = M2 := by rw [nkd_length]; exact HM2.out.symm
          have hrd := HB3.out.reads (by rw [hnl]; omega)
          have hsrc : Src (Zn (q + 3)) l1 w3 (some ⟨g, o1, none⟩) (nkd dn L2).length (nkd dn L2) := Src.of_read hrd (fun a ha => by
           injection ha with ha; subst ha
           refine ⟨HB3.out.lt, ?_⟩
           show ¬ Zn (q + 3) (l1 g)
           rw [HGL.out]
           exact fun k => HZ.out (.inr (.inr (.inr k))))
          have hadd := addN_says (V := V1) hnl (tAddN_calls l1 w3 q p n1 V1 kv vv S1 kx vx dn HT3.out (by have := HN2.out; have := HXL.out; omega) (some ⟨g, o1, none⟩) C2 (nkd dn L2) (by rw [hnl]; exact hM2) (by rw [hnl]; omega) (by rw [hnl]; have := HC2.out; omega) hsrc)
          have hgl3 : g < w3.heap.size := HB3.out.lt
          have HADD := Lib.hid hadd
          have HGL3 := Lib.hid hgl3
          clear hnl hrd hsrc hadd hgl3
          go_wp2_with (
           go_at_call 59
           refine HADD.out.mono ?_
           rintro e w4 ⟨l2, V2, n2, S2, ev2, rfl, k1, k2, k3, k4, k5⟩
           have G2 := Lib.hid ((k3.lab g HGL3.out).trans HGL.out)
           have Y4 := Lib.hid (HY3.out.same (k3.block g HGL3.out (by rw [HGL.out]; exact HZ.out)))
           have K1 := Lib.hid k1
           have K2 := Lib.hid k2
           have K3 := Lib.hid k3
           have K4 := Lib.hid k4
           have K5 := Lib.hid k5
           clear k1 k2 k3 k4 k5)
          go_roundw
          case rel =>
           have hgo := HGO2.out
           rw [HKL.out] at hgo
           refine ⟨O, m, C1, m + 1, n2, f, (m : Int), YD, _, _, rfl, rfl, Lib.hid (by omega), HMC, HDL, Y4, Lib.hid hgo, HFL2, K4, Lib.hid ⟨l2, V2, S2, K1.out, ?_, (HST.out.trans (HO3.out.mono (fun _ e => .inr e))).trans (K3.out.mono (fun _ e => .inl e)), G2.out⟩, Lib.hid (by have := K2.out; have := HN2.out; have := HDL.out; omega), HRD, Lib.hid ⟨HCMX.out.1, by omega⟩⟩
           rw [K5.out, HACC.out]
          case measure =>
           have := HI.out
           have := HCMX.out
           simp [lenV, intOf]
           omega
    ·have j0 : decide ((m : Int) < 0) = false := decide_eq_false (by omega)
     clear hj0
     go_upto_region 9 with (
      go_at_call 64
      refine HIX.out.mono ?_
      rintro e w2 ⟨rfl, hw2⟩
      obtain rfl : wr = w2 := hw2.symm)
     go_loopw [6] (fun kv wi => ∃ (o1 M1 C2 : Nat) (L1 : List Int), kv = .slice (some ⟨g, o1, none⟩) M1 C2 ∧ wi = wr ∧ 0 < M1 ∧ M1 ≤ m ∧ Hid (M1 = L1.length) ∧ Hid (M1 ≤ C2) ∧ Hid (BrO wr 5 g o1 L1) ∧ Hid (trimR (trimL L1) = K0) ∧ Hid (∀ x ∈ L1, 0 ≤ x ∧ x ≤ 255) ∧ Hid (o1 + M1 = O + m)) (fun kv _ => lenV kv)
     case atStart => exact ⟨O, m, C1, L, rfl, rfl, hm0, Nat.le_refl _, Lib.hid HLm.out.symm, Lib.hid (by have := HMC.out; omega), HBL, HK0, HRL, Lib.hid rfl⟩
     case round =>
      obtain ⟨o1, M1, C2, L1, rfl, hwi, hM1, hle1, HM1, HC2, HB1, HT1, HR1, HE1⟩ := hrel
      subst hwi
      cases hl1 : L1 with
      | nil => exfalso; have := HM1.out; rw [hl1] at this; simp at this; omega
      | cons b1 L2 =>
       rw [hl1] at HM1 HB1 HT1 HR1
       clear hl1
       have y0 : wr.cell? ⟨g, o1, none⟩ = some (.int .u8 b1) := HB1.out.cell 0 (by simp)
       have p1 : (0 : Int) < (M1 : Int) := by omega
       by_cases hb1 : b1 = 32
       ·have hK2 : trimR (trimL L2) = K0 := by have := HT1.out; rw [hb1, trimL_sp] at this; exact this
        have hnz : 1 < M1 := by
         have h1 := HM1.out
         rw [List.length_cons] at h1
         rcases Nat.eq_zero_or_pos L2.length with h0 | h0
         ·exfalso
          rw [List.eq_nil_of_length_eq_zero h0] at hK2
          exact HKN.out hK2.symm
         ·omega
        have hcut1 : ∀ W, (Instr.slice 54 (.slice (some ⟨g, o1, none⟩) M1 C2) (some (.int .i64 1)) none none).run Try.prog W = .ok (.slice (some ⟨g, o1 + 1, none⟩) (M1 - 1) (C2 - 1)) W := cut8a g o1 M1 C2 1 hnz HC2.out
        have HBn := Lib.hid (show BrO wr 5 g (o1 + 1) L2 from HB1.out.drop 1)
        have HRn := Lib.hid (show ∀ x ∈ L2, 0 ≤ x ∧ x ≤ 255 from fun x k => HR1.out x (List.mem_cons_of_mem _ k))
        have HKn := Lib.hid hK2
        clear hK2
        subst hb1
        go_wp2
        go_roundw
        case rel => exact ⟨o1 + 1, M1 - 1, C2 - 1, L2, rfl, by first | rfl | trivial, by omega, by omega, Lib.hid (by have := HM1.out; rw [List.length_cons] at this; omega), Lib.hid (by have := HC2.out; omega), HBn, HKn, HRn, Lib.hid (by have := HE1.out; omega)⟩
        case measure => simp [lenV]; omega
       ·have hbe : (b1 == 32) = false := beq_eq_false_iff_ne.2 hb1
        have HT2 := Lib.hid (show trimR (b1 :: L2) = K0 by have := HT1.out; rw [trimL_hd _ _ hb1] at this; exact this)
        obtain ⟨LL, hLL⟩ : ∃ X, b1 :: L2 = X := ⟨_, rfl⟩
        rw [hLL] at HM1 HB1 HT1 HT2 HR1
        clear hLL
        go_upto_region 11 with fail
        go_loopw [6] (fun kv wj => ∃ (M2 : Nat) (L2 : List Int), kv = .slice (some ⟨g, o1, none⟩) M2 C2 ∧ wj = wr ∧ 0 < M2 ∧ M2 ≤ M1 ∧ Hid (M2 = L2.length) ∧ Hid (BrO wr 5 g o1 L2) ∧ Hid (trimR L2 = K0) ∧ Hid (∀ x ∈ L2, 0 ≤ x ∧ x ≤ 255)) (fun kv _ => lenV kv)
        case atStart => exact ⟨M1, LL, rfl, rfl, hM1, Nat.le_refl _, HM1, HB1, HT2, HR1⟩
        case round =>
         clear y0 p1 hbe
         obtain ⟨M2, L2, rfl, hwj, hM2, hle2, HM2, HB2, HK2, HR2⟩ := hrel
         subst hwj
         obtain ⟨k, hk⟩ : ∃ k, M2 = k + 1 := ⟨M2 - 1, by omega⟩
         have hL2n : L2 ≠ [] := by intro k; have := HM2.out; rw [k] at this; simp at this; omega
         obtain ⟨L3, b, hL3⟩ : ∃ L3 b, L2 = L3 ++ [b] := ⟨L2.dropLast, L2.getLast hL2n, (List.dropLast_concat_getLast hL2n).symm⟩
         have hk3 : L3.length = k := by have := HM2.out; rw [hL3, List.length_append] at this; simp at this; omega
         have y0 : wr.cell? ⟨g, o1 + k, none⟩ = some (.int .u8 b) := by
          have hkl : k < L2.length := by have := HM2.out; omega
          have hd : L2.getD k 0 = b := by rw [hL3, List.getD_eq_getElem?_getD, List.getElem?_append_right (by omega), hk3, Nat.sub_self]; rfl
          rw [HB2.out.cell k hkl, hd]
         have p1 : (0 : Int) < (M2 : Int) := by omega
         have p2 : (M2 : Int) - 1 = (k : Int) := by omega
         have p3 : k < M2 := by omega
         have HKK := Lib.hid hk
         have HK3 := Lib.hid hk3
         have HL3 := Lib.hid hL3
         clear hk3 hL3 hL2n hk
         by_cases hb : b = 32
         ·have hcutk := cut8h (some ⟨g, o1, none⟩) M2 C2 k (by omega) (by have := HC2.out; omega)
          have hnz : 0 < k := by
           rcases Nat.eq_zero_or_pos k with h0 | h0
           ·exfalso
            have := HK2.out
            rw [HL3.out, show L3 = [] from List.eq_nil_of_length_eq_zero (by rw [HK3.out]; exact h0), hb, trimR_sp] at this
            exact HKN.out this.symm
           ·exact h0
          have HB3 := Lib.hid (show BrO wr 5 g o1 L3 by have := HB2.out.take L3.length; rw [HL3.out, List.take_left'] at this; exact this; rfl)
          have HK4 := Lib.hid (show trimR L3 = K0 by have := HK2.out; rw [HL3.out, hb, trimR_sp] at this; exact this)
          have HR3 := Lib.hid (show ∀ x ∈ L3, 0 ≤ x ∧ x ≤ 255 from fun x hx => HR2.out x (by rw [HL3.out]; exact List.mem_append_left _ hx))
          subst hb
          go_wp2
          go_roundw
          case rel => exact ⟨k, L3, rfl, by first | rfl | trivial, hnz, by omega, Lib.hid HK3.out.symm, HB3, HK4, HR3⟩
          case measure => simp [lenV]; omega
         ·have hbe : (b == 32) = false := beq_eq_false_iff_ne.2 hb
          have HKL := Lib.hid (show K0 = L2 by have := HK2.out; rw [HL3.out, trimR_hd _ _ hb, ← HL3.out] at this; exact this.symm)
          obtain ⟨l1, V1, S1, hT, hacc, hst, hgl⟩ := HM.out
          obtain ⟨x4, _⟩ := hT.c4
          have HT := Lib.hid hT
          have HACC := Lib.hid hacc
          have HST := Lib.hid hst
          have HGL := Lib.hid hgl
          clear hT hacc hst hgl
          go_upto_region 14 with (
           go_at_call 60
           refine (nhkd_calls wr g o1 M2 C2 L2 dn HM2.out.symm HR2.out (by omega) HB2.out).mono ?_
           rintro e w3 ⟨rfl, hb3, ho3⟩
           have st3 := ho3.stp l1
           rw [HGL.out] at st3
           have hT3 := HT.out.keep st3 (fun lab e => by rw [e]; exact HZ.out)
           have hys3 := HYS'.out.apart ho3 (by have := HE1.out; omega)
           have HT3 := Lib.hid hT3
           have HB3 := Lib.hid hb3
           have HY3 := Lib.hid hys3
           have HO3 := Lib.hid st3
           clear hT3 hb3 hys3 ho3 x4 st3)
          have hnl : (nkd dn L2).length = M2 := by rw [nkd_length]; exact HM2.out.symm
          have hrd := HB3.out.reads (by rw [hnl]; omega)
          have hsrc : Src (Zn (q + 3)) l1 w3 (some ⟨g, o1, none⟩) (nkd dn L2).length (nkd dn L2) := Src.of_read hrd (fun a ha => by
           injection ha with ha; subst ha
           refine ⟨HB3.out.lt, ?_⟩
           show ¬ Zn (q + 3) (l1 g)
           rw [HGL.out]
           exact fun k => HZ.out (.inr (.inr (.inr k))))
          have hadd := addN_says (V := V1) hnl (tAddN_calls l1 w3 q p n1 V1 kv vv S1 kx vx dn HT3.out (by have := HN2.out; have := HXL.out; omega) (some ⟨g, o1, none⟩) C2 (nkd dn L2) (by rw [hnl]; exact hM2) (by rw [hnl]; omega) (by rw [hnl]; have := HC2.out; omega) hsrc)
          have hgl3 : g < w3.heap.size := HB3.out.lt
          have HADD := Lib.hid hadd
          have HGL3 := Lib.hid hgl3
          clear hnl hrd hsrc hadd hgl3
          go_wp2_with (
           go_at_call 59
           refine HADD.out.mono ?_
           rintro e w4 ⟨l2, V2, n2, S2, ev2, rfl, k1, k2, k3, k4, k5⟩
           have G2 := Lib.hid ((k3.lab g HGL3.out).trans HGL.out)
           have Y4 := Lib.hid (HY3.out.same (k3.block g HGL3.out (by rw [HGL.out]; exact HZ.out)))
           have K1 := Lib.hid k1
           have K2 := Lib.hid k2
           have K3 := Lib.hid k3
           have K4 := Lib.hid k4
           have K5 := Lib.hid k5
           clear k1 k2 k3 k4 k5)
          go_roundw
          case rel =>
           have hgo := HGO2.out
           rw [HKL.out] at hgo
           refine ⟨O, CM, C1, m + 1, n2, f, (m : Int), YD, _, _, rfl, rfl, Lib.hid (by omega), HMC, HDL, Y4, Lib.hid hgo, HFL2, K4, Lib.hid ⟨l2, V2, S2, K1.out, ?_, (HST.out.trans (HO3.out.mono (fun _ e => .inr e))).trans (K3.out.mono (fun _ e => .inl e)), G2.out⟩, Lib.hid (by have := K2.out; have := HN2.out; have := HDL.out; omega), HRD, Lib.hid ⟨HCMX.out.1, by omega⟩⟩
           rw [K5.out, HACC.out]
          case measure =>
           have := HI.out
           have := HCMX.out
           simp [lenV, intOf]
           omega
open Go.Proofs.Ytoimkmoalmmooaa.PrX
theorem fail5 {w : World} {b1 b2 : Nat} {c0 c1 c2 c3 c4 a0 a1 a2 a3 a4 x y : Value} (r1 : w.heap[b1]? = some (.cells #[c0, c1, c2, c3, c4] 32 (0, 0))) (r2 : w.heap[b2]? = some (.cells #[x] 4 (0, 0))) (hne : b1 ≠ b2) :
    ((((((w.setCell ⟨b1, 0, none⟩ a0).setCell ⟨b1, 1, none⟩ a1).setCell ⟨b1, 2, none⟩ a2).setCell ⟨b1, 3, none⟩ a3).setCell ⟨b1, 4, none⟩ a4).setCell ⟨b2, 0, none⟩ y).heap[b1]? = some (.cells #[a0, a1, a2, a3, a4] 32 (0, 0)) ∧
    ((((((w.setCell ⟨b1, 0, none⟩ a0).setCell ⟨b1, 1, none⟩ a1).setCell ⟨b1, 2, none⟩ a2).setCell ⟨b1, 3, none⟩ a3).setCell ⟨b1, 4, none⟩ a4).setCell ⟨b2, 0, none⟩ y).heap[b2]? = some (.cells #[y] 4 (0, 0)) := by
  have s0 := heap_setCell_same w b1 0 _ 32 a0 r1
  have s1 := heap_setCell_same _ b1 1 _ 32 a1 s0
  have s2 := heap_setCell_same _ b1 2 _ 32 a2 s1
  have s3 := heap_setCell_same _ b1 3 _ 32 a3 s2
  have s4 := heap_setCell_same _ b1 4 _ 32 a4 s3
  have hn : ∀ (W : World) (o : Nat) (v : Value), (W.setCell ⟨b1, o, none⟩ v).heap[b2]? = W.heap[b2]? := fun W o v => Below.heap_setCell _ _ _ _ (fun e => hne e.symm)
  refine ⟨?_, ?_⟩
  · rw [Below.heap_setCell _ _ _ _ (show b1 ≠ b2 from hne), s4]
    rfl
  · have t0 : (((((w.setCell ⟨b1, 0, none⟩ a0).setCell ⟨b1, 1, none⟩ a1).setCell ⟨b1, 2, none⟩ a2).setCell ⟨b1, 3, none⟩ a3).setCell ⟨b1, 4, none⟩ a4).heap[b2]? = some (.cells #[x] 4 (0, 0)) := by rw [hn, hn, hn, hn, hn]; exact r2
    exact heap_setCell_same _ b2 0 _ 4 y t0
set_option maxHeartbeats 1000000 in
theorem trailer_caught (b1 b2 : Nat) (u : TypeId) (pv : Value) (older : List PanicEntry) (w : World) {c0 c1 c2 c3 c4 x : Value} (r1 : w.heap[b1]? = some (.cells #[c0, c1, c2, c3, c4] 32 (0, 0))) (r2 : w.heap[b2]? = some (.cells #[x] 4 (0, 0))) (hne : b1 ≠ b2) :
    CallsD Try.prog 40 #[.pointer (some ⟨b1, 0, none⟩), .pointer (some ⟨b2, 0, none⟩)] (.panicking ({ v := .iface u pv, recovered := false } :: older)) w fun e u' w' =>
      e = .returned (.tuple #[]) ∧ u' = .panicking ({ v := .iface u pv, recovered := true } :: older) ∧
      w' = (((((w.setCell ⟨b1, 0, none⟩ (.string ⟨#[]⟩)).setCell ⟨b1, 1, none⟩ (.bool false)).setCell ⟨b1, 2, none⟩ (.int .i64 0)).setCell ⟨b1, 3, none⟩ (.slice none 0 0)).setCell ⟨b1, 4, none⟩ (.slice none 0 0)).setCell ⟨b2, 0, none⟩ (.bool false) := by
  have e0 := frozen_of_row w b1 0 _ _ r1
  have e1 := frozen_of_row w b1 1 _ _ r1
  have e2 := frozen_of_row w b1 2 _ _ r1
  have e3 := frozen_of_row w b1 3 _ _ r1
  have e4 := frozen_of_row w b1 4 _ _ r1
  have e5 := frozen_of_row w b2 0 _ _ r2
  have a0 : w.cell? ⟨b1, 0, none⟩ = some c0 := by rw [cell_of_row w _ 0 _ _ (0, 0) r1]; rfl
  have a1 : w.cell? ⟨b1, 1, none⟩ = some c1 := by rw [cell_of_row w _ 1 _ _ (0, 0) r1]; rfl
  have a2 : w.cell? ⟨b1, 2, none⟩ = some c2 := by rw [cell_of_row w _ 2 _ _ (0, 0) r1]; rfl
  have a3 : w.cell? ⟨b1, 3, none⟩ = some c3 := by rw [cell_of_row w _ 3 _ _ (0, 0) r1]; rfl
  have a4 : w.cell? ⟨b1, 4, none⟩ = some c4 := by rw [cell_of_row w _ 4 _ _ (0, 0) r1]; rfl
  have b0 : w.cell? ⟨b2, 0, none⟩ = some x := by rw [cell_of_row w _ 0 _ _ (0, 0) r2]; rfl
  refine callsD_of_wpS Try.func40 rfl fun c₀ cs hu => ?_
  apply wpS_seq
  apply wpS_region
  simp [wpOpsS, go_sem, recoverD, hu, Try.ntmps40, Exit.thenS]
  refine wpS_cond (t := true) (by simp [Act.eval, Array.replicate]) ?_
  simp only [if_true]
  apply wpS_region
  simp [wpOpsS, go_sem, a0, a1, a2, a3, a4, b0, e0, e1, e2, e3, e4, e5, bodyPostS, results, Try.results40]
def StepP (l : Nat → Nat) (w : World) (q : Nat) (e : Ending) (w' : World) : Prop := e = .returned (.tuple #[.agg #[.string ⟨#[]⟩, .bool false, .int .i64 0, .slice none 0 0, .slice none 0 0], .bool false]) ∧ ∃ l1, Stp (Tz q) l l1 w w'
set_option maxHeartbeats 4000000 in
set_option maxRecDepth 100000 in
theorem trailer_set_panics (l : Nat → Nat) (w : World) (q p n : Nat) (V kv vv : Value) (S : List Slot) (kx vx : List Int) (dn : Bool) (h : TrC l w q p V n S kv kx vv vx dn) (hn : n ≤ 1099511627775) (s : S28) (hk0 : s.f1.size = 0) (hvs : s.f2.size ≤ 140737488351232) (hdo : s.f0 = 0) :
    Calls Try.prog 26 #[.pointer (some ⟨p, 0, none⟩), .agg #[.int .i64 s.f0, .string s.f1, .string s.f2, .int .i64 s.f3, .int .i64 s.f4]] w fun e w' => StepP l w q e w' := by
  have st0 := Stp.of_below (W3_below w s) (fun _ => False) l 0
  have hT := h.keep st0 (fun _ k => k.elim)
  have y0 := W3_0 w s
  have y1 := W3_1 w s
  have y2 := W3_2 w s
  have hsz := W3_size w s
  obtain ⟨W, hW⟩ : ∃ W, W3 w s = W := ⟨_, rfl⟩
  have hW' := hW
  rw [hW] at hT st0 y0 y1 y2 hsz
  unfold W3 at hW'
  have hg := tSet_panics _ W q p n V kv vv S kx vx dn hT hn s.f1 s.f2 hk0 hvs
  have HG := Lib.hid hg
  clear hg
  have HT := Lib.hid hT
  have HS0 := Lib.hid st0
  have Y1 := Lib.hid y1
  have Y2 := Lib.hid y2
  have c0 : W.cell? ⟨w.heap.size, 0, none⟩ = some (.int .i64 s.f0) := by rw [cell_of_row W _ 0 _ _ (0, 0) y0]; rfl
  have c1 : W.cell? ⟨w.heap.size, 1, none⟩ = some (.string s.f1) := by rw [cell_of_row W _ 1 _ _ (0, 0) y0]; rfl
  have c2 : W.cell? ⟨w.heap.size, 2, none⟩ = some (.string s.f2) := by rw [cell_of_row W _ 2 _ _ (0, 0) y0]; rfl
  rw [hdo] at c0
  have HW := Lib.hid hW'
  have HSZ := Lib.hid hsz
  rw [← hW'] at c0 c1 c2
  have hmf : ∀ (fn : Fn) (first cap : Array Value) (w : World), (Instr.makeFunc fn first cap).run Try.prog w = .ok (.func fn first cap) w := fun _ _ _ _ => rfl
  have HDO := Lib.hid hdo
  clear h hT y0 y1 y2 st0 hW hW' hsz hdo
  go_enter_defers Try.func26, Try.ntmps26
  go_wp2_with (first
    | (go_at_call 41
       rw [HW.out]
       refine HG.out.mono ?_
       rintro e w4 ⟨⟨u, v, rfl⟩, l4, st4⟩
       have lt1 : w.heap.size + 1 < W.heap.size := by rw [HSZ.out]; omega
       have lt2 : w.heap.size + 2 < W.heap.size := by rw [HSZ.out]; omega
       have lb0 : ¬ Tz q 0 := by have := HT.out.1; have := HT.out.2.1; unfold Tz; omega
       have r1 := (st4.block (w.heap.size + 1) lt1 (by rw [ext_new l (by omega)]; exact lb0)).trans Y1.out
       have r2 := (st4.block (w.heap.size + 2) lt2 (by rw [ext_new l (by omega)]; exact lb0)).trans Y2.out
       have R1 := Lib.hid r1
       have R2 := Lib.hid r2
       have ST4 := Lib.hid st4
       clear lt1 lt2 lb0 r1 r2 st4))
  refine leaves_cons (f := 40) (args := #[.pointer (some ⟨w.heap.size + 1, 0, none⟩), .pointer (some ⟨w.heap.size + 1 + 1, 0, none⟩)]) (by simp) (by simp [go_sem]) ?_
  refine (trailer_caught (w.heap.size + 1) (w.heap.size + 1 + 1) u v [] w4 R1.out R2.out (by omega)).mono ?_
  rintro e u' w'' ⟨rfl, rfl, rfl⟩
  obtain ⟨f1, f2⟩ := fail5 (a0 := .string ⟨#[]⟩) (a1 := .bool false) (a2 := .int .i64 0) (a3 := .slice none 0 0) (a4 := .slice none 0 0) (y := .bool false) R1.out R2.out (by omega)
  have HS5 := Lib.hid ((((((((HS0.out.mono (fun _ k => k.elim) : Stp (Tz q) _ _ _ _).trans ST4.out).setNew (a := ⟨w.heap.size + 1, 0, none⟩) (by show _ ≤ w.heap.size + 1; omega) (.string ⟨#[]⟩)).setNew (a := ⟨w.heap.size + 1, 1, none⟩) (by show _ ≤ w.heap.size + 1; omega) (.bool false)).setNew (a := ⟨w.heap.size + 1, 2, none⟩) (by show _ ≤ w.heap.size + 1; omega) (.int .i64 0)).setNew (a := ⟨w.heap.size + 1, 3, none⟩) (by show _ ≤ w.heap.size + 1; omega) (.slice none 0 0)).setNew (a := ⟨w.heap.size + 1, 4, none⟩) (by show _ ≤ w.heap.size + 1; omega) (.slice none 0 0)).setNew (a := ⟨w.heap.size + 1 + 1, 0, none⟩) (by show _ ≤ w.heap.size + 1 + 1; omega) (.bool false))
  generalize ((((((w4.setCell ⟨w.heap.size + 1, 0, none⟩ (.string ⟨#[]⟩)).setCell ⟨w.heap.size + 1, 1, none⟩ (.bool false)).setCell ⟨w.heap.size + 1, 2, none⟩ (.int .i64 0)).setCell ⟨w.heap.size + 1, 3, none⟩ (.slice none 0 0)).setCell ⟨w.heap.size + 1, 4, none⟩ (.slice none 0 0)).setCell ⟨w.heap.size + 1 + 1, 0, none⟩ (.bool false)) = w5 at *
  have g0 : w5.cell? ⟨w.heap.size + 1, 0, none⟩ = some (.string ⟨#[]⟩) := by rw [cell_of_row w5 _ 0 _ _ (0, 0) f1]; rfl
  have g1 : w5.cell? ⟨w.heap.size + 1, 1, none⟩ = some (.bool false) := by rw [cell_of_row w5 _ 1 _ _ (0, 0) f1]; rfl
  have g2 : w5.cell? ⟨w.heap.size + 1, 2, none⟩ = some (.int .i64 0) := by rw [cell_of_row w5 _ 2 _ _ (0, 0) f1]; rfl
  have g3 : w5.cell? ⟨w.heap.size + 1, 3, none⟩ = some (.slice none 0 0) := by rw [cell_of_row w5 _ 3 _ _ (0, 0) f1]; rfl
  have g4 : w5.cell? ⟨w.heap.size + 1, 4, none⟩ = some (.slice none 0 0) := by rw [cell_of_row w5 _ 4 _ _ (0, 0) f1]; rfl
  have g5 : w5.cell? ⟨w.heap.size + 1 + 1, 0, none⟩ = some (.bool false) := by rw [cell_of_row w5 _ 0 _ _ (0, 0) f2]; rfl
  simp [Leaves, settle, results, Try.results26, go_sem, g0, g1, g2, g3, g4, g5]
  exact ⟨rfl, _, HS5.out⟩
set_option maxHeartbeats 4000000 in
set_option maxRecDepth 100000 in
theorem trailer_add_panics (l : Nat → Nat) (w : World) (q p n : Nat) (V kv vv : Value) (S : List Slot) (kx vx : List Int) (dn : Bool) (h : TrC l w q p V n S kv kx vv vx dn) (hn : n ≤ 1099511627775) (s : S28) (hk0 : s.f1.size = 0) (hvs : s.f2.size ≤ 140737488351232) (hdo : s.f0 = 1) :
    Calls Try.prog 26 #[.pointer (some ⟨p, 0, none⟩), .agg #[.int .i64 s.f0, .string s.f1, .string s.f2, .int .i64 s.f3, .int .i64 s.f4]] w fun e w' => StepP l w q e w' := by
  have st0 := Stp.of_below (W3_below w s) (fun _ => False) l 0
  have hT := h.keep st0 (fun _ k => k.elim)
  have y0 := W3_0 w s
  have y1 := W3_1 w s
  have y2 := W3_2 w s
  have hsz := W3_size w s
  obtain ⟨W, hW⟩ : ∃ W, W3 w s = W := ⟨_, rfl⟩
  have hW' := hW
  rw [hW] at hT st0 y0 y1 y2 hsz
  unfold W3 at hW'
  have hg := tAdd_panics _ W q p n V kv vv S kx vx dn hT hn s.f1 s.f2 hk0 hvs
  have HG := Lib.hid hg
  clear hg
  have HT := Lib.hid hT
  have HS0 := Lib.hid st0
  have Y1 := Lib.hid y1
  have Y2 := Lib.hid y2
  have c0 : W.cell? ⟨w.heap.size, 0, none⟩ = some (.int .i64 s.f0) := by rw [cell_of_row W _ 0 _ _ (0, 0) y0]; rfl
  have c1 : W.cell? ⟨w.heap.size, 1, none⟩ = some (.string s.f1) := by rw [cell_of_row W _ 1 _ _ (0, 0) y0]; rfl
  have c2 : W.cell? ⟨w.heap.size, 2, none⟩ = some (.string s.f2) := by rw [cell_of_row W _ 2 _ _ (0, 0) y0]; rfl
  rw [hdo] at c0
  have HW := Lib.hid hW'
  have HSZ := Lib.hid hsz
  rw [← hW'] at c0 c1 c2
  have hmf : ∀ (fn : Fn) (first cap : Array Value) (w : World), (Instr.makeFunc fn first cap).run Try.prog w = .ok (.func fn first cap) w := fun _ _ _ _ => rfl
  have HDO := Lib.hid hdo
  clear h hT y0 y1 y2 st0 hW hW' hsz hdo
  go_enter_defers Try.func26, Try.ntmps26
  go_wp2_with (first
    | (go_at_call 42
       rw [HW.out]
       refine HG.out.mono ?_
       rintro e w4 ⟨⟨u, v, rfl⟩, l4, st4⟩
       have lt1 : w.heap.size + 1 < W.heap.size := by rw [HSZ.out]; omega
       have lt2 : w.heap.size + 2 < W.heap.size := by rw [HSZ.out]; omega
       have lb0 : ¬ Tz q 0 := by have := HT.out.1; have := HT.out.2.1; unfold Tz; omega
       have r1 := (st4.block (w.heap.size + 1) lt1 (by rw [ext_new l (by omega)]; exact lb0)).trans Y1.out
       have r2 := (st4.block (w.heap.size + 2) lt2 (by rw [ext_new l (by omega)]; exact lb0)).trans Y2.out
       have R1 := Lib.hid r1
       have R2 := Lib.hid r2
       have ST4 := Lib.hid st4
       clear lt1 lt2 lb0 r1 r2 st4))
  refine leaves_cons (f := 40) (args := #[.pointer (some ⟨w.heap.size + 1, 0, none⟩), .pointer (some ⟨w.heap.size + 1 + 1, 0, none⟩)]) (by simp) (by simp [go_sem]) ?_
  refine (trailer_caught (w.heap.size + 1) (w.heap.size + 1 + 1) u v [] w4 R1.out R2.out (by omega)).mono ?_
  rintro e u' w'' ⟨rfl, rfl, rfl⟩
  obtain ⟨f1, f2⟩ := fail5 (a0 := .string ⟨#[]⟩) (a1 := .bool false) (a2 := .int .i64 0) (a3 := .slice none 0 0) (a4 := .slice none 0 0) (y := .bool false) R1.out R2.out (by omega)
  have HS5 := Lib.hid ((((((((HS0.out.mono (fun _ k => k.elim) : Stp (Tz q) _ _ _ _).trans ST4.out).setNew (a := ⟨w.heap.size + 1, 0, none⟩) (by show _ ≤ w.heap.size + 1; omega) (.string ⟨#[]⟩)).setNew (a := ⟨w.heap.size + 1, 1, none⟩) (by show _ ≤ w.heap.size + 1; omega) (.bool false)).setNew (a := ⟨w.heap.size + 1, 2, none⟩) (by show _ ≤ w.heap.size + 1; omega) (.int .i64 0)).setNew (a := ⟨w.heap.size + 1, 3, none⟩) (by show _ ≤ w.heap.size + 1; omega) (.slice none 0 0)).setNew (a := ⟨w.heap.size + 1, 4, none⟩) (by show _ ≤ w.heap.size + 1; omega) (.slice none 0 0)).setNew (a := ⟨w.heap.size + 1 + 1, 0, none⟩) (by show _ ≤ w.heap.size + 1 + 1; omega) (.bool false))
  generalize ((((((w4.setCell ⟨w.heap.size + 1, 0, none⟩ (.string ⟨#[]⟩)).setCell ⟨w.heap.size + 1, 1, none⟩ (.bool false)).setCell ⟨w.heap.size + 1, 2, none⟩ (.int .i64 0)).setCell ⟨w.heap.size + 1, 3, none⟩ (.slice none 0 0)).setCell ⟨w.heap.size + 1, 4, none⟩ (.slice none 0 0)).setCell ⟨w.heap.size + 1 + 1, 0, none⟩ (.bool false)) = w5 at *
  have g0 : w5.cell? ⟨w.heap.size + 1, 0, none⟩ = some (.string ⟨#[]⟩) := by rw [cell_of_row w5 _ 0 _ _ (0, 0) f1]; rfl
  have g1 : w5.cell? ⟨w.heap.size + 1, 1, none⟩ = some (.bool false) := by rw [cell_of_row w5 _ 1 _ _ (0, 0) f1]; rfl
  have g2 : w5.cell? ⟨w.heap.size + 1, 2, none⟩ = some (.int .i64 0) := by rw [cell_of_row w5 _ 2 _ _ (0, 0) f1]; rfl
  have g3 : w5.cell? ⟨w.heap.size + 1, 3, none⟩ = some (.slice none 0 0) := by rw [cell_of_row w5 _ 3 _ _ (0, 0) f1]; rfl
  have g4 : w5.cell? ⟨w.heap.size + 1, 4, none⟩ = some (.slice none 0 0) := by rw [cell_of_row w5 _ 4 _ _ (0, 0) f1]; rfl
  have g5 : w5.cell? ⟨w.heap.size + 1 + 1, 0, none⟩ = some (.bool false) := by rw [cell_of_row w5 _ 0 _ _ (0, 0) f2]; rfl
  simp [Leaves, settle, results, Try.results26, go_sem, g0, g1, g2, g3, g4, g5]
  exact ⟨rfl, _, HS5.out⟩
set_option maxHeartbeats 4000000 in
set_option maxRecDepth 100000 in
theorem trailer_upd_panics (l : Nat → Nat) (w : World) (q p n : Nat) (V kv vv : Value) (S : List Slot) (kx vx : List Int) (dn : Bool) (h : TrC l w q p V n S kv kx vv vx dn) (hn : n ≤ 1099511627775) (s : S28) (hk0 : s.f1.size = 0) (hvs : s.f2.size ≤ 140737488351232) (hdo : s.f0 = 9) :
    Calls Try.prog 26 #[.pointer (some ⟨p, 0, none⟩), .agg #[.int .i64 s.f0, .string s.f1, .string s.f2, .int .i64 s.f3, .int .i64 s.f4]] w fun e w' => StepP l w q e w' := by
  have st0 := Stp.of_below (W3_below w s) (fun _ => False) l 0
  have hT := h.keep st0 (fun _ k => k.elim)
  have y0 := W3_0 w s
  have y1 := W3_1 w s
  have y2 := W3_2 w s
  have hsz := W3_size w s
  obtain ⟨W, hW⟩ : ∃ W, W3 w s = W := ⟨_, rfl⟩
  have hW' := hW
  rw [hW] at hT st0 y0 y1 y2 hsz
  unfold W3 at hW'
  have hcv1 := Lib.run_convert_string_bytes (P := Try.prog) W 9 54 5 s.f1 Try.underlying9 Try.underlying54 Try.underlying5
  have hbl1 := conv_below W 5 s.f1
  have br1 := Br.conv W 5 s.f1
  have sz1 := Lib.bytesWorld_size W 5 s.f1
  have cap1 := grownCap_ge W s.f1.size 0 5
  obtain ⟨cc1, hcc1⟩ : ∃ c, grownCap W s.f1.size 0 5 = c := ⟨_, rfl⟩
  rw [hcc1] at hcv1 cap1
  obtain ⟨U1, hU1⟩ : ∃ X, Lib.bytesWorld W 5 s.f1 = X := ⟨_, rfl⟩
  rw [hU1] at hcv1 hbl1 br1 sz1
  obtain ⟨g1, hg1⟩ : ∃ g, W.heap.size = g := ⟨_, rfl⟩
  rw [hg1] at hcv1 br1 sz1
  have hT1 := hT.keep (Stp.of_below_same hbl1 (fun _ => False) (ext l w.heap.size 0)) (fun _ k => k.elim)
  have st1 := Stp.of_below_same hbl1 (Tz q) (ext l w.heap.size 0)
  have hcv2 := Lib.run_convert_string_bytes (P := Try.prog) U1 9 54 5 s.f2 Try.underlying9 Try.underlying54 Try.underlying5
  have hbl2 := conv_below U1 5 s.f2
  have br2 := Br.conv U1 5 s.f2
  have sz2 := Lib.bytesWorld_size U1 5 s.f2
  have cap2 := grownCap_ge U1 s.f2.size 0 5
  obtain ⟨cc2, hcc2⟩ : ∃ c, grownCap U1 s.f2.size 0 5 = c := ⟨_, rfl⟩
  rw [hcc2] at hcv2 cap2
  obtain ⟨U2, hU2⟩ : ∃ X, Lib.bytesWorld U1 5 s.f2 = X := ⟨_, rfl⟩
  rw [hU2] at hcv2 hbl2 br2 sz2
  obtain ⟨g2, hg2⟩ : ∃ g, U1.heap.size = g := ⟨_, rfl⟩
  rw [hg2] at hcv2 br2 sz2
  have hT2 := hT1.keep (Stp.of_below_same hbl2 (fun _ => False) (ext l w.heap.size 0)) (fun _ k => k.elim)
  have st2 := Stp.of_below_same hbl2 (Tz q) (ext l w.heap.size 0)
  have hg := tUpd_panics U2 (.pointer (some ⟨p, 0, none⟩)) (some ⟨g1, 0, none⟩) (some ⟨g2, 0, none⟩) cc1 s.f2.size cc2
  rw [hk0] at hcv1
  have HG := Lib.hid hg
  have ST12 := Lib.hid (st1.trans st2)
  have y0' := (hbl1.block w.heap.size (by omega)).trans y0
  have c2' : U1.cell? ⟨w.heap.size, 2, none⟩ = some (.string s.f2) := by rw [cell_of_row U1 _ 2 _ _ (0, 0) y0']; rfl
  rw [← hW'] at hcv1
  clear hg hk0 hvs st1 st2 hT1 hT2 br1 br2 sz1 sz2 hbl1 hbl2 cap1 cap2 hcc1 hcc2 hU1 hU2 hg1 hg2 y0'
  have HT := Lib.hid hT
  have HS0 := Lib.hid st0
  have Y1 := Lib.hid y1
  have Y2 := Lib.hid y2
  have c0 : W.cell? ⟨w.heap.size, 0, none⟩ = some (.int .i64 s.f0) := by rw [cell_of_row W _ 0 _ _ (0, 0) y0]; rfl
  have c1 : W.cell? ⟨w.heap.size, 1, none⟩ = some (.string s.f1) := by rw [cell_of_row W _ 1 _ _ (0, 0) y0]; rfl
  have c2 : W.cell? ⟨w.heap.size, 2, none⟩ = some (.string s.f2) := by rw [cell_of_row W _ 2 _ _ (0, 0) y0]; rfl
  rw [hdo] at c0
  have HW := Lib.hid hW'
  have HSZ := Lib.hid hsz
  rw [← hW'] at c0 c1 c2
  have hmf : ∀ (fn : Fn) (first cap : Array Value) (w : World), (Instr.makeFunc fn first cap).run Try.prog w = .ok (.func fn first cap) w := fun _ _ _ _ => rfl
  have HDO := Lib.hid hdo
  clear h hT y0 y1 y2 st0 hW hW' hsz hdo
  go_enter_defers Try.func26, Try.ntmps26
  go_wp2_with (first
    | (go_at_call 50
       refine HG.out.mono ?_
       rintro e w4 ⟨⟨u, v, rfl⟩, hw4⟩
       have st4 : Stp (Tz q) (ext l w.heap.size 0) (ext l w.heap.size 0) W U2.drew := ST12.out.trans (drew_stp (Tz q) _ U2 1)
       rw [hw4] at st4
       clear hw4
       have lt1 : w.heap.size + 1 < W.heap.size := by rw [HSZ.out]; omega
       have lt2 : w.heap.size + 2 < W.heap.size := by rw [HSZ.out]; omega
       have lb0 : ¬ Tz q 0 := by have := HT.out.1; have := HT.out.2.1; unfold Tz; omega
       have r1 := (st4.block (w.heap.size + 1) lt1 (by rw [ext_new l (by omega)]; exact lb0)).trans Y1.out
       have r2 := (st4.block (w.heap.size + 2) lt2 (by rw [ext_new l (by omega)]; exact lb0)).trans Y2.out
       have R1 := Lib.hid r1
       have R2 := Lib.hid r2
       have ST4 := Lib.hid st4
       clear lt1 lt2 lb0 r1 r2 st4))
  refine leaves_cons (f := 40) (args := #[.pointer (some ⟨w.heap.size + 1, 0, none⟩), .pointer (some ⟨w.heap.size + 1 + 1, 0, none⟩)]) (by simp) (by simp [go_sem]) ?_
  refine (trailer_caught (w.heap.size + 1) (w.heap.size + 1 + 1) u v [] w4 R1.out R2.out (by omega)).mono ?_
  rintro e u' w'' ⟨rfl, rfl, rfl⟩
  obtain ⟨f1, f2⟩ := fail5 (a0 := .string ⟨#[]⟩) (a1 := .bool false) (a2 := .int .i64 0) (a3 := .slice none 0 0) (a4 := .slice none 0 0) (y := .bool false) R1.out R2.out (by omega)
  have HS5 := Lib.hid ((((((((HS0.out.mono (fun _ k => k.elim) : Stp (Tz q) _ _ _ _).trans ST4.out).setNew (a := ⟨w.heap.size + 1, 0, none⟩) (by show _ ≤ w.heap.size + 1; omega) (.string ⟨#[]⟩)).setNew (a := ⟨w.heap.size + 1, 1, none⟩) (by show _ ≤ w.heap.size + 1; omega) (.bool false)).setNew (a := ⟨w.heap.size + 1, 2, none⟩) (by show _ ≤ w.heap.size + 1; omega) (.int .i64 0)).setNew (a := ⟨w.heap.size + 1, 3, none⟩) (by show _ ≤ w.heap.size + 1; omega) (.slice none 0 0)).setNew (a := ⟨w.heap.size + 1, 4, none⟩) (by show _ ≤ w.heap.size + 1; omega) (.slice none 0 0)).setNew (a := ⟨w.heap.size + 1 + 1, 0, none⟩) (by show _ ≤ w.heap.size + 1 + 1; omega) (.bool false))
  generalize ((((((w4.setCell ⟨w.heap.size + 1, 0, none⟩ (.string ⟨#[]⟩)).setCell ⟨w.heap.size + 1, 1, none⟩ (.bool false)).setCell ⟨w.heap.size + 1, 2, none⟩ (.int .i64 0)).setCell ⟨w.heap.size + 1, 3, none⟩ (.slice none 0 0)).setCell ⟨w.heap.size + 1, 4, none⟩ (.slice none 0 0)).setCell ⟨w.heap.size + 1 + 1, 0, none⟩ (.bool false)) = w5 at *
  have g0 : w5.cell? ⟨w.heap.size + 1, 0, none⟩ = some (.string ⟨#[]⟩) := by rw [cell_of_row w5 _ 0 _ _ (0, 0) f1]; rfl
  have g1 : w5.cell? ⟨w.heap.size + 1, 1, none⟩ = some (.bool false) := by rw [cell_of_row w5 _ 1 _ _ (0, 0) f1]; rfl
  have g2 : w5.cell? ⟨w.heap.size + 1, 2, none⟩ = some (.int .i64 0) := by rw [cell_of_row w5 _ 2 _ _ (0, 0) f1]; rfl
  have g3 : w5.cell? ⟨w.heap.size + 1, 3, none⟩ = some (.slice none 0 0) := by rw [cell_of_row w5 _ 3 _ _ (0, 0) f1]; rfl
  have g4 : w5.cell? ⟨w.heap.size + 1, 4, none⟩ = some (.slice none 0 0) := by rw [cell_of_row w5 _ 4 _ _ (0, 0) f1]; rfl
  have g5 : w5.cell? ⟨w.heap.size + 1 + 1, 0, none⟩ = some (.bool false) := by rw [cell_of_row w5 _ 0 _ _ (0, 0) f2]; rfl
  simp [Leaves, settle, results, Try.results26, go_sem, g0, g1, g2, g3, g4, g5]
  exact ⟨rfl, _, HS5.out⟩
set_option maxHeartbeats 4000000 in
set_option maxRecDepth 100000 in
theorem trailer_names_panics (l : Nat → Nat) (w : World) (q p n : Nat) (V kv vv : Value) (S : List Slot) (kx vx : List Int) (dn : Bool) (h : TrC l w q p V n S kv kx vv vx dn) (hn : n ≤ 1099511627775) (s : S28) (hvs : s.f2.size ≤ 1099511627775) (f0 : Nat) (hf0 : s.f2.size ≤ f0) (hset : setGo dn f0 (ns s.f2) [] false = none) (hdo : s.f0 = 4) :
    Calls Try.prog 26 #[.pointer (some ⟨p, 0, none⟩), .agg #[.int .i64 s.f0, .string s.f1, .string s.f2, .int .i64 s.f3, .int .i64 s.f4]] w fun e w' => StepP l w q e w' := by
  have st0 := Stp.of_below (W3_below w s) (fun _ => False) l 0
  have hT := h.keep st0 (fun _ k => k.elim)
  have y0 := W3_0 w s
  have y1 := W3_1 w s
  have y2 := W3_2 w s
  have hsz := W3_size w s
  obtain ⟨W, hW⟩ : ∃ W, W3 w s = W := ⟨_, rfl⟩
  have hW' := hW
  rw [hW] at hT st0 y0 y1 y2 hsz
  unfold W3 at hW'
  have hcv1 := Lib.run_convert_string_bytes (P := Try.prog) W 9 54 5 s.f2 Try.underlying9 Try.underlying54 Try.underlying5
  have hbl1 := conv_below W 5 s.f2
  have br1 := Br.conv W 5 s.f2
  have sz1 := Lib.bytesWorld_size W 5 s.f2
  have cap1 := grownCap_ge W s.f2.size 0 5
  obtain ⟨cc1, hcc1⟩ : ∃ c, grownCap W s.f2.size 0 5 = c := ⟨_, rfl⟩
  rw [hcc1] at hcv1 cap1
  obtain ⟨U1, hU1⟩ : ∃ X, Lib.bytesWorld W 5 s.f2 = X := ⟨_, rfl⟩
  rw [hU1] at hcv1 hbl1 br1 sz1
  obtain ⟨g1, hg1⟩ : ∃ g, W.heap.size = g := ⟨_, rfl⟩
  rw [hg1] at hcv1 br1 sz1
  obtain ⟨zl, z1, z2, z3⟩ := fresh_label (ext l w.heap.size 0) W.heap.size
  have hz : ¬ Tz q zl := by have := hT.1; have := hT.2.1; unfold Tz; omega
  have st1 := Stp.of_below hbl1 (fun lab => Tz q lab ∨ lab = zl) (ext l w.heap.size 0) zl
  have hT1 := hT.keep (Stp.of_below hbl1 (fun _ => False) (ext l w.heap.size 0) zl) (fun _ k => k.elim)
  rw [hg1] at st1 hT1
  have hg := tSetT_panics (ext (ext l w.heap.size 0) g1 zl) U1 q p n V kv vv S kx vx dn hT1 zl g1 cc1 hz (ext_new _ (Nat.le_refl _)) (ns s.f2) (fun x k => ns_range s.f2 x k) (Br.bro br1) (by rw [ns_length]; exact cap1) (by rw [ns_length]; exact hvs) f0 (by rw [ns_length]; exact hf0) hset
  rw [ns_length] at hg
  have HG := Lib.hid hg
  have ST1 := Lib.hid st1
  have HF1 := Lib.hid z1
  rw [← hW'] at hcv1
  clear hg hset hvs hf0 st1 hT1 br1 sz1 hbl1 cap1 hcc1 hU1 hg1 z1 z2 z3 hz
  have HT := Lib.hid hT
  have HS0 := Lib.hid st0
  have Y1 := Lib.hid y1
  have Y2 := Lib.hid y2
  have c0 : W.cell? ⟨w.heap.size, 0, none⟩ = some (.int .i64 s.f0) := by rw [cell_of_row W _ 0 _ _ (0, 0) y0]; rfl
  have c1 : W.cell? ⟨w.heap.size, 1, none⟩ = some (.string s.f1) := by rw [cell_of_row W _ 1 _ _ (0, 0) y0]; rfl
  have c2 : W.cell? ⟨w.heap.size, 2, none⟩ = some (.string s.f2) := by rw [cell_of_row W _ 2 _ _ (0, 0) y0]; rfl
  rw [hdo] at c0
  have HW := Lib.hid hW'
  have HSZ := Lib.hid hsz
  rw [← hW'] at c0 c1 c2
  have hmf : ∀ (fn : Fn) (first cap : Array Value) (w : World), (Instr.makeFunc fn first cap).run Try.prog w = .ok (.func fn first cap) w := fun _ _ _ _ => rfl
  have HDO := Lib.hid hdo
  clear h hT y0 y1 y2 st0 hW hW' hsz hdo
  go_enter_defers Try.func26, Try.ntmps26
  go_wp2_with (first
    | (go_at_call 45
       refine HG.out.mono ?_
       rintro e w4 ⟨⟨u, v, rfl⟩, l4, hst⟩
       have st4 := (ST1.out.trans hst).less HF1.out
       clear hst
       have lt1 : w.heap.size + 1 < W.heap.size := by rw [HSZ.out]; omega
       have lt2 : w.heap.size + 2 < W.heap.size := by rw [HSZ.out]; omega
       have lb0 : ¬ Tz q 0 := by have := HT.out.1; have := HT.out.2.1; unfold Tz; omega
       have r1 := (st4.block (w.heap.size + 1) lt1 (by rw [ext_new l (by omega)]; exact lb0)).trans Y1.out
       have r2 := (st4.block (w.heap.size + 2) lt2 (by rw [ext_new l (by omega)]; exact lb0)).trans Y2.out
       have R1 := Lib.hid r1
       have R2 := Lib.hid r2
       have ST4 := Lib.hid st4
       clear lt1 lt2 lb0 r1 r2 st4))
  refine leaves_cons (f := 40) (args := #[.pointer (some ⟨w.heap.size + 1, 0, none⟩), .pointer (some ⟨w.heap.size + 1 + 1, 0, none⟩)]) (by simp) (by simp [go_sem]) ?_
  refine (trailer_caught (w.heap.size + 1) (w.heap.size + 1 + 1) u v [] w4 R1.out R2.out (by omega)).mono ?_
  rintro e u' w'' ⟨rfl, rfl, rfl⟩
  obtain ⟨f1, f2⟩ := fail5 (a0 := .string ⟨#[]⟩) (a1 := .bool false) (a2 := .int .i64 0) (a3 := .slice none 0 0) (a4 := .slice none 0 0) (y := .bool false) R1.out R2.out (by omega)
  have HS5 := Lib.hid ((((((((HS0.out.mono (fun _ k => k.elim) : Stp (Tz q) _ _ _ _).trans ST4.out).setNew (a := ⟨w.heap.size + 1, 0, none⟩) (by show _ ≤ w.heap.size + 1; omega) (.string ⟨#[]⟩)).setNew (a := ⟨w.heap.size + 1, 1, none⟩) (by show _ ≤ w.heap.size + 1; omega) (.bool false)).setNew (a := ⟨w.heap.size + 1, 2, none⟩) (by show _ ≤ w.heap.size + 1; omega) (.int .i64 0)).setNew (a := ⟨w.heap.size + 1, 3, none⟩) (by show _ ≤ w.heap.size + 1; omega) (.slice none 0 0)).setNew (a := ⟨w.heap.size + 1, 4, none⟩) (by show _ ≤ w.heap.size + 1; omega) (.slice none 0 0)).setNew (a := ⟨w.heap.size + 1 + 1, 0, none⟩) (by show _ ≤ w.heap.size + 1 + 1; omega) (.bool false))
  generalize ((((((w4.setCell ⟨w.heap.size + 1, 0, none⟩ (.string ⟨#[]⟩)).setCell ⟨w.heap.size + 1, 1, none⟩ (.bool false)).setCell ⟨w.heap.size + 1, 2, none⟩ (.int .i64 0)).setCell ⟨w.heap.size + 1, 3, none⟩ (.slice none 0 0)).setCell ⟨w.heap.size + 1, 4, none⟩ (.slice none 0 0)).setCell ⟨w.heap.size + 1 + 1, 0, none⟩ (.bool false)) = w5 at *
  have g0 : w5.cell? ⟨w.heap.size + 1, 0, none⟩ = some (.string ⟨#[]⟩) := by rw [cell_of_row w5 _ 0 _ _ (0, 0) f1]; rfl
  have g1 : w5.cell? ⟨w.heap.size + 1, 1, none⟩ = some (.bool false) := by rw [cell_of_row w5 _ 1 _ _ (0, 0) f1]; rfl
  have g2 : w5.cell? ⟨w.heap.size + 1, 2, none⟩ = some (.int .i64 0) := by rw [cell_of_row w5 _ 2 _ _ (0, 0) f1]; rfl
  have g3 : w5.cell? ⟨w.heap.size + 1, 3, none⟩ = some (.slice none 0 0) := by rw [cell_of_row w5 _ 3 _ _ (0, 0) f1]; rfl
  have g4 : w5.cell? ⟨w.heap.size + 1, 4, none⟩ = some (.slice none 0 0) := by rw [cell_of_row w5 _ 4 _ _ (0, 0) f1]; rfl
  have g5 : w5.cell? ⟨w.heap.size + 1 + 1, 0, none⟩ = some (.bool false) := by rw [cell_of_row w5 _ 0 _ _ (0, 0) f2]; rfl
  simp [Leaves, settle, results, Try.results26, go_sem, g0, g1, g2, g3, g4, g5]
  exact ⟨rfl, _, HS5.out⟩
abbrev Ans := S32
def stepX (dn : Bool) (L : List KVx) (s : Step) : Bool :=
  decide (L.length ≤ 1099511627775 ∧ s.f1.size ≤ 1099511627775 ∧ s.f2.size ≤ 1099511627775) && ((decide (s.f0 = 0 ∨ s.f0 = 1 ∨ s.f0 = 9) && decide (s.f1.size = 0)) || (decide (s.f0 = 4) && (setGo dn s.f2.size (ns s.f2) [] false).isNone))
theorem trailer_panics (l : Nat → Nat) (w : World) (q p n : Nat) (V kv vv : Value) (S : List Slot) (kx vx : List Int) (dn : Bool) (h : TrC l w q p V n S kv kx vv vx dn) (s : Step) (hx : stepX dn (kvs S n) s = true) :
    Calls Try.prog 26 #[.pointer (some ⟨p, 0, none⟩), .agg #[.int .i64 s.f0, .string s.f1, .string s.f2, .int .i64 s.f3, .int .i64 s.f4]] w fun e w' => StepP l w q e w' := by
  unfold stepX at hx
  simp only [Bool.and_eq_true, Bool.or_eq_true, decide_eq_true_eq] at hx
  obtain ⟨⟨hL, h1, h2⟩, hx⟩ := hx
  have hlen := kvs_length h.2.2.2.1.le
  rw [hlen] at hL
  rcases hx with ⟨hd, h0⟩ | ⟨h4, hs⟩
  · rcases hd with hd | hd | hd
    · exact trailer_set_panics l w q p n V kv vv S kx vx dn h hL s h0 (by omega) hd
    · exact trailer_add_panics l w q p n V kv vv S kx vx dn h hL s h0 (by omega) hd
    · exact trailer_upd_panics l w q p n V kv vv S kx vx dn h hL s h0 (by omega) hd
  · exact trailer_names_panics l w q p n V kv vv S kx vx dn h hL s h2 s.f2.size (Nat.le_refl _) (by cases hg : setGo dn s.f2.size (ns s.f2) [] false with
      | none => rfl
      | some x => rw [hg] at hs; cases hs) h4
def scriptF (dn : Bool) (L : List KVx) (acc : List Ans) : List Step → Option (List Ans × ByteArray × Bool)
  | [] => if L.length ≤ 1099511627775 ∧ RgK L ∧ sizeKV L + 2 ≤ 140737488355328 then some (acc, strOfNums (linesOf L ++ [13, 10]), true) else none
  | s :: r => match stepF dn L s with
    | none => if stepX dn L s = true then some (acc, ⟨#[]⟩, false) else none
    | some ((T, is, P), dn', L') => scriptF dn' L' (acc ++ [⟨T, is, 0, [], P⟩]) r
theorem Stp.below0 {q : Nat} (hq : 0 < q) {l l1 : Nat → Nat} {w w1 : World} {B : Nat} (h : Stp (Tz q) l l1 w w1) (hB : B ≤ w.heap.size) (hl : ∀ b, b < B → l b = 0) (hq2 : q + 3 < 64) : Below B w w1 :=
  ⟨h.os, h.tape, h.output, h.size, fun b hb => h.block b (by omega) (by rw [hl b hb]; unfold Tz; omega)⟩
theorem S_stp {α : Type} {d : Kd α} {e base q : Nat} {l l1 : Nat → Nat} {w w1 : World} {v : Value} {xs : List α} (hq : 0 < q) (hq2 : q + 3 < 64) (h : Kd.S d e w base (fun k => l k = 0) v xs) (s : Stp (Tz q) l l1 w w1) : Kd.S d e w1 base (fun k => l1 k = 0 ∧ k < w.heap.size) v xs := by
  refine Kd.S_mono (Kd.S_step (Kd.S_bound h) (fun k hk hlt => s.block k hlt (by rw [hk.1]; unfold Tz; omega))) (fun k hk => ⟨by rw [s.lab k hk.2.2.1]; exact hk.1, hk.2.2.1⟩)
end Go.Proofs.Ytoimkmoalmmooaa.Own
namespace Go.Proofs.Ytoimkmoalmmooaa.Own
open Go.RowKit Go.Proofs.YtoimkmoalmmooaaW.PrintWords Go.Proofs.YtoimkmoalmmooaaW.PrintLast Go.Proofs.YtoimkmoalmmooaaW.PrintMore Go.Proofs.Ytoimkmoalmmooaa.Base Go.Proofs.Ytoimkmoalmmooaa.Gv Go.Proofs.Ytoimkmoalmmooaa.Given Go.Proofs.Ytoimkmoalmmooaa.QA Go.Proofs.Ytoimkmoalmmooaa.PrX
def lab1 (p : Nat) : Nat → Nat := fun b => if b = p then 1 else 0
theorem newT (w : World) : TrC (lab1 w.heap.size) (w.alloc (.cells #[.slice none 0 0, .slice none 0 0, .slice none 0 0, .bool false, .bool false] 58)) 1 w.heap.size (.slice none 0 0) 0 [] (.slice none 0 0) [] (.slice none 0 0) [] false :=
  ⟨by omega, by omega, ⟨heap_alloc_new _ _, if_pos rfl⟩, ⟨by omega, by simp, .inl ⟨rfl, rfl, rfl⟩⟩, Bf.nil _ _ _, Bf.nil _ _ _⟩
def MidS (w : World) (dn : Bool) (L : List KVx) (acc : List Ans) (ov : Value) (wr : World) : Prop := ∃ l1 V n S kv kx vv vx, TrC l1 wr 1 w.heap.size V n S kv kx vv vx dn ∧ kvs S n = L ∧ Kd.S k32 32 wr w.heap.size (fun k => l1 k = 0) ov acc ∧ (∀ b, b < w.heap.size → l1 b = 0) ∧ Below w.heap.size w wr
def ScriptT (w : World) (r : List Ans × ByteArray × Bool) (e : Ending) (w' : World) : Prop := ∃ v, e = .returned (.tuple #[v, .string r.2.1, .bool r.2.2]) ∧ Kd.S k32 32 w' w.heap.size (fun _ => True) v r.1 ∧ Below w.heap.size w w'
set_option maxHeartbeats 4000000 in
set_option maxRecDepth 100000 in
theorem script_calls (A0 : Option Addr) (c0 : Nat) (xs : List Step) (r : List Ans × ByteArray × Bool) (w : World) (hr0 : Kd.C k28 w A0 xs.length xs) (hc0 : xs.length ≤ c0) (hN : xs.length ≤ 1000000000) (h : scriptF false [] [] xs = some r) :
    Calls Try.prog 9 #[.slice A0 xs.length c0] w fun e w' => ScriptT w r e w' := by
  have hinfo : (Try.prog.info? 32).map (fun i => (i.zero, i.size, i.bytes)) = some (some (.agg #[.string ⟨#[]⟩, .bool false, .int .i64 0, .slice none 0 0, .slice none 0 0]), 5, 80) := by kernel_rfl
  have hmid : MidS w false [] [] (.slice none 0 0) (w.alloc (.cells #[.slice none 0 0, .slice none 0 0, .slice none 0 0, .bool false, .bool false] 58)) :=
    ⟨lab1 w.heap.size, _, _, _, _, _, _, _, newT w, rfl, Kd.S_nil _ _ _ _ _, fun b hb => if_neg (by omega), (Below.refl _ _).alloc (Nat.le_refl _) _⟩
  obtain ⟨N, hNN⟩ : ∃ n, xs.length = n := ⟨_, rfl⟩
  rw [hNN] at hN hc0 ⊢
  have HNN := Lib.hid hNN
  have HR0 := Lib.hid hr0
  have HMID := Lib.hid hmid
  have HGO := Lib.hid h
  have HI := Lib.hid hinfo
  clear hr0 h hmid hNN hinfo
  go_enter Try.func9, Try.ntmps9
  go_wp2
  go_loopw [6, 15] (fun ov iv wr => ∃ (x : Int) (dn : Bool) (L : List KVx) (acc : List Ans), iv = .int .i64 x ∧ 0 ≤ x ∧ x ≤ (N : Int) ∧ Hid (scriptF dn L acc (xs.drop x.toNat) = some r) ∧ Hid (MidS w dn L acc ov wr) ∧ Hid (acc.length ≤ x.toNat)) (fun _ iv _ => N - (intOf iv).toNat)
  case atStart => exact ⟨0, false, [], [], rfl, by omega, by omega, HGO, HMID, Lib.hid (by simp)⟩
  case round =>
    obtain ⟨x, dn, L, acc, rfl, hx0, hxN, HGO, HMS, HAL⟩ := hrel
    obtain ⟨l1, V, n, S, kv, kx, vv, vx, hT, hkv, hS, hz, hb⟩ := HMS.out
    by_cases hlt : x < (N : Int)
    · obtain ⟨s, r', hdr⟩ : ∃ s r', xs.drop x.toNat = s :: r' := by
        have : x.toNat < xs.length := by have := HNN.out; omega
        exact ⟨_, _, List.drop_eq_getElem_cons this⟩
      have hrd : rd_T28 xs x = s := by
        unfold rd_T28
        have h2 : xs[x.toNat]? = some s := by
          have := congrArg (fun q => q[0]?) hdr
          simpa [List.getElem?_drop] using this
        rw [List.getD_eq_getElem?_getD, h2]; rfl
      have hdr2 : xs.drop (x + 1).toNat = r' := by
        have := congrArg (fun q => q.drop 1) hdr
        simp only [List.drop_drop, List.drop_succ_cons, List.drop_zero] at this
        rw [show (x + 1).toNat = x.toNat + 1 by omega]; exact this
      have hgo := HGO.out
      rw [hdr, scriptF] at hgo
      have hq : x < (xs.length : Int) := by have := HNN.out; omega
      obtain ⟨ad, e0, y0, y1, y2, y3, y4⟩ := at_T28 HR0.out x hx0 hq
      cases e0
      rw [hrd] at y0 y1 y2 y3 y4
      replace y0 := (hb.cell (World.block_lt_of_cell? w _ y0)).trans y0
      replace y1 := (hb.cell (World.block_lt_of_cell? w _ y1)).trans y1
      replace y2 := (hb.cell (World.block_lt_of_cell? w _ y2)).trans y2
      replace y3 := (hb.cell (World.block_lt_of_cell? w _ y3)).trans y3
      replace y4 := (hb.cell (World.block_lt_of_cell? w _ y4)).trans y4
      -- the step's box
      obtain ⟨W1, hW1⟩ : ∃ X, wr.alloc (.cells #[.int .i64 s.f0, .string s.f1, .string s.f2, .int .i64 s.f3, .int .i64 s.f4] 28) = X := ⟨_, rfl⟩
      have hb1 : Below wr.heap.size wr W1 := by rw [← hW1]; exact (Below.refl _ _).alloc (Nat.le_refl _) _
      have hs1 : W1.heap.size = wr.heap.size + 1 := by rw [← hW1]; simp
      have st1 := Stp.of_below hb1 (Tz 1) l1 0
      have hT1 := hT.keep (Stp.of_below hb1 (fun _ => False) l1 0) (fun _ k => k.elim)
      have hS1 := S_stp (by omega) (by omega) hS st1
      cases hst : stepF dn L s with
      | none =>
        rw [hst] at hgo
        by_cases hxx : stepX dn L s = true
        · have hgo2 : some (acc, (⟨#[]⟩ : ByteArray), false) = some r := by
            have : (if stepX dn L s = true then some (acc, (⟨#[]⟩ : ByteArray), false) else none) = some r := hgo
            rw [if_pos hxx] at this; exact this
          injection hgo2 with hgo2
          subst hgo2
          have hcall := trailer_panics _ W1 1 w.heap.size n V kv vv S kx vx dn hT1 s (by rw [hkv]; exact hxx)
          have HW1 := Lib.hid hW1
          have HS1 := Lib.hid hs1
          have HB := Lib.hid hb
          have HZ := Lib.hid hz
          have HSS := Lib.hid hS1
          have HCALL := Lib.hid hcall
          clear hT hkv hS hz hb hdr hrd hdr2 hgo hst hq hb1 hs1 st1 hT1 hS1 hcall hW1 HGO HMS hxx
          go_wp2_with (
            go_at_call 26
            rw [HW1.out]
            refine HCALL.out.mono ?_
            rintro e w4 ⟨rfl, l3, t4⟩
            have hb4 : Below w.heap.size W1 w4 := t4.below0 (by omega) (by have := HS1.out; have := HB.out.size; omega) (fun b hb => (ext_old l1 (by have := HB.out.size; omega)).trans (HZ.out b hb)) (by omega)
            have hb1 : Below wr.heap.size wr W1 := by rw [← HW1.out]; exact (Below.refl _ _).alloc (Nat.le_refl _) _
            have hbw : Below w.heap.size w w4 := (HB.out.trans (below_weaken_t HB.out.size hb1)).trans hb4
            have hSw : Kd.S k32 32 w4 w.heap.size (fun k => ext l1 wr.heap.size 0 k = 0 ∧ k < wr.heap.size) u6 acc := Kd.S_step HSS.out (fun k hk hlt => t4.block k hlt (by rw [hk.1]; unfold Tz; omega))
            have TB := Lib.hid hbw
            have TS := Lib.hid hSw
            clear t4 hb4 hb1 hbw hSw)
          go_ret3
          exact ⟨u6, by simp [Act.put], Kd.S_mono (Kd.S_below TS.out ((Below.refl _ _).alloc (Nat.le_refl _) _)) (fun _ _ => trivial), TB.out.trans (below_weaken_t TB.out.size ((Below.refl _ _).alloc (Nat.le_refl _) _))⟩
        · have : (if stepX dn L s = true then some (acc, (⟨#[]⟩ : ByteArray), false) else none) = some r := hgo
          rw [if_neg hxx] at this; cases this
      | some y =>
      obtain ⟨⟨T, is, P⟩, dn', L'⟩ := y
      rw [hst] at hgo
      have hgo2 : scriptF dn' L' (acc ++ [⟨T, is, 0, [], P⟩]) r' = some r := hgo
      have hcall := trailer_calls _ W1 1 w.heap.size n V kv vv S kx vx dn hT1 s _ (by rw [hkv]; exact hst)
      have HW1 := Lib.hid hW1
      have HS1 := Lib.hid hs1
      have HB := Lib.hid hb
      have HZ := Lib.hid hz
      have HSS := Lib.hid hS1
      have HCALL := Lib.hid hcall
      have HGO2 := Lib.hid hgo2
      have HDR := Lib.hid hdr2
      have HST1 := Lib.hid st1
      clear hT hkv hS hz hb hdr hrd hdr2 hgo hst hgo2 hq hb1 hs1 st1 hT1 hS1 hcall hW1 HGO HMS
      have hwS := (Kd.S_R HSS.out).1
      have HOWN := Lib.hid (show ∀ k, u6.ownBlock = some k → ext l1 wr.heap.size 0 k = 0 ∧ k < wr.heap.size from fun k hk => hwS k hk)
      clear hwS
      go_wp2_with (first
        | (go_at_call 26
           rw [HW1.out]
           refine HCALL.out.mono ?_
           rintro e w4 ⟨l3, V1, n1, S1, kv1, kx1, vv1, vx1, PV, rfl, t1, t2, t3, t4⟩
           have t3 : Kd.R k34 34 w4 W1.heap.size (fun k => l3 k = 0) PV P := t3
           obtain ⟨PA, pc, rfl⟩ := Kd.R_slice t3
           obtain ⟨PN, hPN⟩ : ∃ k, P.length = k := ⟨_, rfl⟩
           rw [hPN] at t3
           simp only
           rw [hPN]
           have hb4 : Below w.heap.size W1 w4 := t4.below0 (by omega) (by have := HS1.out; have := HB.out.size; omega) (fun b hb => (ext_old l1 (by have := HB.out.size; omega)).trans (HZ.out b hb)) (by omega)
           have hb1 : Below wr.heap.size wr W1 := by rw [← HW1.out]; exact (Below.refl _ _).alloc (Nat.le_refl _) _
           have hbw : Below w.heap.size w w4 := (HB.out.trans (below_weaken_t HB.out.size hb1)).trans hb4
           have hSw : Kd.S k32 32 w4 w.heap.size (fun k => ext l1 wr.heap.size 0 k = 0 ∧ k < wr.heap.size) u6 acc := Kd.S_step HSS.out (fun k hk hlt => t4.block k hlt (by rw [hk.1]; unfold Tz; omega))
           have hlab : ∀ k, k < wr.heap.size → l3 k = ext l1 wr.heap.size 0 k := fun k hk => t4.lab k (by have := HS1.out; omega)
           have T1 := Lib.hid t1
           have T2 := Lib.hid t2
           have T3 := Lib.hid t3
           have TB := Lib.hid hbw
           have TS := Lib.hid hSw
           have TL := Lib.hid hlab
           have TZ := Lib.hid (show w.heap.size ≤ wr.heap.size ∧ wr.heap.size ≤ W1.heap.size ∧ W1.heap.size ≤ w4.heap.size from ⟨HB.out.size, by have := HS1.out; omega, hb4.size⟩)
           clear t1 t2 t3 t4 hb4 hb1 hbw hSw hlab hPN)
        | (at_builtin
           obtain ⟨W5, hW5⟩ : ∃ X, w4.alloc (.cells #[.string T, .bool is, .int .i64 0, .slice none 0 0, .slice PA PN pc] 32) = X := ⟨_, rfl⟩
           rw [hW5]
           have b5 : Below w4.heap.size w4 W5 := by rw [← hW5]; exact (Below.refl _ _).alloc (Nat.le_refl _) _
           have s5 : W5.heap.size = w4.heap.size + 1 := by rw [← hW5]; simp
           have z5 := TZ.out
           have hR4 := Kd.R_mono (Kd.R_bound T3.out) (fun k hk => (⟨(ext_old l3 hk.2.2.1).trans hk.1, Nat.le_trans z5.2.1 hk.2.1⟩ : ext l3 w4.heap.size 0 k = 0 ∧ wr.heap.size ≤ k))
           have hR5 := Kd.R_lower (base' := w.heap.size) (Kd.R_below hR4 b5) (by omega)
           have hS5 := Kd.S_mono (Kd.S_below TS.out b5) (fun k hk => (⟨by rw [ext_old l3 (by omega), TL.out k hk.2]; exact hk.1, fun h2 => by omega⟩ : ext l3 w4.heap.size 0 k = 0 ∧ ¬ (ext l3 w4.heap.size 0 k = 0 ∧ wr.heap.size ≤ k)))
           have hB5 : Below w.heap.size w W5 := TB.out.trans (below_weaken_t (by omega) b5)
           have hal := HAL.out
           refine Kd.S_append k32 (w0 := w) w.heap.size rfl (.tmp 28) (.tmp 30) 24 32 (.agg #[.string ⟨#[]⟩, .bool false, .int .i64 0, .slice none 0 0, .slice none 0 0]) 80 rfl Try.underlying24 HI.out rfl (by decide) (by omega) u6 acc (⟨T, is, 0, [], P⟩ : Ans) [.string T, .bool is, .int .i64 0, .slice none 0 0, .slice PA PN pc] (fun k => ext l3 w4.heap.size 0 k = 0) (fun k => ext l3 w4.heap.size 0 k = 0 ∧ wr.heap.size ≤ k) (by first | rfl | (go_simp; done)) (by rw [s5]; first | rfl | (go_simp; done)) (k32_mkM _ _ _ _ (Kd.R_nil _ _ _ _ _) hR5) (fun k hk => ⟨hk.1, fun e => by have := HOWN.out k e.symm; omega⟩) (fun k hk => ext_new _ (by omega)) hS5 hB5 (by omega) (by omega) ?_
           intro v6 w6 hr6 hb6 hg6 hat6
           have hT5 := T1.out.keep (Stp.of_below b5 (fun _ => False) l3 0) (fun _ k => k.elim)
           have hs6 : Stp (· = 0) (ext l3 w4.heap.size 0) (ext l3 w4.heap.size 0) W5 w6 := ⟨hg6.os, hg6.tape, hg6.output, hg6.size, fun _ _ => rfl, fun b hb hf => hg6.block b hb (fun e => hf (by
             obtain ⟨o1, o2⟩ := HOWN.out b e.symm
             rw [ext_old l3 (by omega), TL.out b o2]; exact o1))⟩
           have hT6 := hT5.keep hs6 (fun lab e k => by subst e; unfold Tz at k; omega)
           have NS := Lib.hid (show MidS w dn' L' (acc ++ [⟨T, is, 0, [], P⟩]) v6 w6 from ⟨_, _, _, _, _, _, _, _, hT6, T2.out, hr6, fun b hb => by rw [ext_old l3 (by omega), TL.out b (by omega), ext_old l1 (by omega)]; exact HZ.out b hb, hb6⟩)
           clear hT5 hs6 hT6 hr6 hb6 hg6 hat6 hS5 hB5 hR5 hR4 b5 s5 z5 hal hW5))
      go_roundw
      case rel =>
        exact ⟨x + 1, dn', L', _, by go_num, by omega, by omega, Lib.hid (by rw [HDR.out]; exact HGO2.out), NS, Lib.hid (by rw [List.length_append]; have := HAL.out; simp; omega)⟩
      case measure => simp [intOf]; omega
    · obtain rfl : x = (N : Int) := by omega
      have hdr : xs.drop (N : Int).toNat = [] := List.drop_eq_nil_of_le (by have := HNN.out; omega)
      have hgo := HGO.out
      rw [hdr, scriptF] at hgo
      by_cases hg : L.length ≤ 1099511627775 ∧ RgK L ∧ sizeKV L + 2 ≤ 140737488355328
      · rw [if_pos hg] at hgo
        injection hgo with hgo
        subst hgo
        have hlen := kvs_length hT.2.2.2.1.le
        rw [← hkv, hlen] at hg
        obtain ⟨TX, hTX⟩ : ∃ y, strOfNums (linesOf L ++ [13, 10]) = y := ⟨_, rfl⟩
        have HTX := Lib.hid hTX
        have HTY := Lib.hid (show strOfNums (linesOf (kvs S n) ++ [13, 10]) = TX by rw [hkv]; exact hTX)
        have HHM : Hid (∀ m, Calls Try.prog 27 #[.pointer (some ⟨w.heap.size, 0, none⟩)] (wr.drewN m) fun e w' => HeadT l1 (wr.drewN m) 1 w.heap.size n V kv S kx dn (linesOf (kvs S n) ++ [13, 10]) e w') := Lib.hid (fun m => tHeader_calls l1 _ 1 w.heap.size n V kv vv S kx vx dn (hT.keep (drew_stp (fun _ => False) l1 wr m) (fun _ k => k.elim)) hg.1 hg.2.1 hg.2.2)
        have HSD := Lib.hid hS
        have HBD := Lib.hid hb
        have HZ := Lib.hid hz
        have q1 : ((N : Int) < (N : Int)) = False := by simp
        clear hT hkv hS hz hb hdr hg hlen hTX HMS HGO
        go_wp2
        go_region_with (
          go_simp
          go_at_call 27
          refine (HHM.out _).mono ?_
          rintro e w4 ⟨l4, A1, N1, c1, rfl, hN1, hT4, st4⟩
          have hcv := conv_read (c := c1) hT4.2.2.2.2.2.reads
          rw [← hN1] at hcv
          rw [HTY.out] at hcv
          have ST4 := Lib.hid st4
          clear hN1 hT4 st4)
        all_goals (
          go_wp2
          go_ret3
          have st : Stp (Tz 1) l1 l4 wr _ := (drew_stp (Tz 1) l1 wr _).trans ST4.out
          have hb4 := st.below0 (by omega) HBD.out.size HZ.out (by omega)
          have hS4 := Kd.S_mono (Kd.S_step HSD.out (fun k hk hlt => st.block k hlt (by rw [hk]; unfold Tz; omega))) (fun _ _ => trivial)
          exact ⟨u6, by simp [Act.put, HTX.out], hS4, HBD.out.trans hb4⟩)
      · rw [if_neg hg] at hgo; cases hgo
end Go.Proofs.Ytoimkmoalmmooaa.Own
namespace Go.Proofs.Ytoimkmoalmmooaa.Given
open Go.RowKit Go.Proofs.YtoimkmoalmmooaaW.PrintWords Go.Proofs.YtoimkmoalmmooaaW.PrintLast Go.Proofs.YtoimkmoalmmooaaW.PrintMore Go.Proofs.Ytoimkmoalmmooaa.Base Go.Proofs.Ytoimkmoalmmooaa.QA
def impl_TrailerScript.f (l : List S28) : Option (List S32 × ByteArray × Bool) := if l.length ≤ 1000000000 then Own.scriptF false [] [] l else none
theorem impl_TrailerScript.calls (A0 : Option Addr) (c0 : Nat) (l : List S28) (r1 : List S32) (r2 : ByteArray) (r3 : Bool) (w : World) (hr0 : Kd.C k28 w A0 l.length l) (hc0 : l.length ≤ c0) (h : impl_TrailerScript.f l = some (r1, r2, r3)) :
    Calls Try.prog 9 #[.slice A0 l.length c0] w fun e w' => ∃ v, e = .returned (.tuple #[v, .string r2, .bool r3]) ∧ Kd.S k32 32 w' w.heap.size (fun _ => True) v r1 ∧ Below w.heap.size w w' := by
  unfold impl_TrailerScript.f at h
  by_cases hl : l.length ≤ 1000000000
  · rw [if_pos hl] at h
    exact Own.script_calls A0 c0 l (r1, r2, r3) w hr0 hc0 hl h
  · rw [if_neg hl] at h; cases h
end Go.Proofs.Ytoimkmoalmmooaa.Given
namespace Go.Proofs.Ytoimkmoalmmooaa.Own
open Go.RowKit Go.Proofs.YtoimkmoalmmooaaW.PrintWords Go.Proofs.YtoimkmoalmmooaaW.PrintLast Go.Proofs.YtoimkmoalmmooaaW.PrintMore Go.Proofs.Ytoimkmoalmmooaa.Base Go.Proofs.Ytoimkmoalmmooaa.Gv Go.Proofs.Ytoimkmoalmmooaa.Given Go.Proofs.Ytoimkmoalmmooaa.QA
theorem badK_x {K : List Int} (h : (K.map o32).headD 0 = 120) : badK K = false := bad_x _ h
theorem stepF_4 (dn : Bool) (L : List KVx) (s : Step) (hd : s.f0 = 4) (hL : L.length ≤ 1000000) (h1 : s.f1.size ≤ 1000000) (h2 : s.f2.size ≤ 1000000) : stepF dn L s = (setGo dn s.f2.size (ns s.f2) [] false).map fun r => ((⟨#[]⟩, !r.2, []), dn, r.1) := by
  unfold stepF
  rw [if_neg (by omega), if_neg (by omega), if_neg (by omega), if_neg (by omega), if_pos hd]
theorem stepF_3 (dn : Bool) (L : List KVx) (s : Step) (hd : s.f0 = 3) (hL : L.length ≤ 1000000) (h1 : s.f1.size ≤ 1000000) (h2 : s.f2.size ≤ 1000000) : stepF dn L s = some ((strOfNums ((getKV (nkd dn (ns s.f1)) L).getD []), false, []), dn, L) := by
  unfold stepF
  rw [if_neg (by omega), if_neg (by omega), if_neg (by omega), if_pos hd]
theorem stepF_1 (dn : Bool) (L : List KVx) (s : Step) (hd : s.f0 = 1) (hL : L.length ≤ 1000000) (h0 : s.f1.size ≠ 0) (h1 : s.f1.size ≤ 1000000) (h2 : s.f2.size ≤ 1000000) (hb : badK (nkd dn (ns s.f1)) = false) : stepF dn L s = some ((⟨#[]⟩, true, []), dn, L ++ [⟨nkd dn (ns s.f1), ns s.f2, false⟩]) := by
  unfold stepF
  rw [if_neg (by omega), if_pos (by omega), if_neg h0, if_neg (show ¬ s.f0 = 9 by omega), if_neg (by rw [hb]; decide), if_neg (show ¬ s.f0 = 0 by omega), if_pos hd]
def runF (dn : Bool) (L : List KVx) : List Step → Option (List Ans × Option (Bool × List KVx))
  | [] => some ([], some (dn, L))
  | s :: r => match stepF dn L s with
    | none => if stepX dn L s = true then some ([], none) else none
    | some ((T, is, P), dn', L') => (runF dn' L' r).map fun x => (⟨T, is, 0, [], P⟩ :: x.1, x.2)
def endF (acc : List Ans) : Option (Bool × List KVx) → Option (List Ans × ByteArray × Bool)
  | none => some (acc, ⟨#[]⟩, false)
  | some (_, L) => if L.length ≤ 1099511627775 ∧ RgK L ∧ sizeKV L + 2 ≤ 140737488355328 then some (acc, strOfNums (linesOf L ++ [13, 10]), true) else none
theorem script_run : ∀ (l : List Step) (dn : Bool) (L : List KVx) (acc : List Ans), scriptF dn L acc l = (runF dn L l).bind fun x => endF (acc ++ x.1) x.2
  | [], dn, L, acc => by
    show _ = endF (acc ++ []) (some (dn, L))
    rw [List.append_nil]; rfl
  | s :: r, dn, L, acc => by
    rw [scriptF, runF]
    cases h : stepF dn L s with
    | none =>
      show (if stepX dn L s = true then some (acc, (⟨#[]⟩ : ByteArray), false) else none) = Option.bind (if stepX dn L s = true then some ([], none) else none) _
      by_cases hx : stepX dn L s = true
      · rw [if_pos hx, if_pos hx]
        show _ = endF (acc ++ []) none
        rw [List.append_nil]; rfl
      · rw [if_neg hx, if_neg hx]; rfl
    | some y =>
      obtain ⟨⟨T, is, P⟩, dn', L'⟩ := y
      show scriptF dn' L' (acc ++ [⟨T, is, 0, [], P⟩]) r = ((runF dn' L' r).map _).bind _
      rw [script_run r dn' L' (acc ++ [(⟨T, is, 0, [], P⟩ : Ans)])]
      cases runF dn' L' r with
      | none => rfl
      | some x => show endF _ _ = endF _ _; rw [List.append_assoc]; rfl
def Small (b : Nat) (L : List KVx) : Prop := L.length ≤ b ∧ ∀ x ∈ L, x.k.length ≤ 200 ∧ x.v.length ≤ 200 ∧ ∀ y ∈ x.k, 0 ≤ y ∧ y ≤ 255
theorem Small.mono {b c : Nat} {L : List KVx} (h : Small b L) (hc : b ≤ c) : Small c L := ⟨Nat.le_trans h.1 hc, h.2⟩
theorem Small.rg {b : Nat} {L : List KVx} (h : Small b L) : RgK L := fun x hx y hy => (h.2 x hx).2.2 y hy
theorem size_le : ∀ (L : List KVx), (∀ x ∈ L, x.k.length ≤ 200 ∧ x.v.length ≤ 200) → sizeKV L ≤ L.length * 404
  | [], _ => by simp [sizeKV]
  | x :: t, h => by
    have h1 := h x (by simp)
    have h2 := size_le t (fun y hy => h y (List.mem_cons_of_mem _ hy))
    rw [sizeKV_cons, List.length_cons]
    omega
theorem Small.size {b : Nat} {L : List KVx} (h : Small b L) : sizeKV L ≤ b * 404 :=
  Nat.le_trans (size_le L (fun x hx => ⟨(h.2 x hx).1, (h.2 x hx).2.1⟩)) (Nat.mul_le_mul_right _ h.1)
theorem nkd_bytes (dn : Bool) {xs : List Int} (h : ∀ x ∈ xs, 0 ≤ x ∧ x ≤ 255) : ∀ x ∈ nkd dn xs, 0 ≤ x ∧ x ≤ 255 := by
  cases dn with
  | true => exact h
  | false => exact nk_range xs h
theorem set_small {b : Nat} {L : List KVx} {k v : List Int} (h : Small b L) (hk : k.length ≤ 200 ∧ v.length ≤ 200 ∧ ∀ y ∈ k, 0 ≤ y ∧ y ≤ 255) : Small (b + 1) (setKV k v L) := by
  induction L generalizing b with
  | nil => exact ⟨by simp [setKV], fun x hx => by simp [setKV] at hx; subst hx; exact hk⟩
  | cons z t ih =>
    have hz := h.2 z (by simp)
    have ht : Small (b - 1) t := ⟨by have := h.1; simp at this; omega, fun x hx => h.2 x (List.mem_cons_of_mem _ hx)⟩
    have hb : 1 ≤ b := by have := h.1; simp at this; omega
    unfold setKV
    split
    · refine ⟨by have := h.1; simp at this ⊢; omega, fun x hx => ?_⟩
      rcases List.mem_cons.1 hx with rfl | hx
      · exact ⟨hz.1, hk.2.1, hz.2.2⟩
      · exact ht.2 x hx
    · obtain ⟨i1, i2⟩ := ih ht
      refine ⟨by simp; omega, fun x hx => ?_⟩
      rcases List.mem_cons.1 hx with rfl | hx
      · exact hz
      · exact i2 x hx
theorem upd_small {b : Nat} {L : List KVx} {k v : List Int} (h : Small b L) (hv : v.length ≤ 200) : Small b (updKV k v L) := by
  induction L generalizing b with
  | nil => exact ⟨by simp [updKV], fun x hx => by simp [updKV] at hx⟩
  | cons z t ih =>
    have hz := h.2 z (by simp)
    have ht : Small (b - 1) t := ⟨by have := h.1; simp at this; omega, fun x hx => h.2 x (List.mem_cons_of_mem _ hx)⟩
    have hb : 1 ≤ b := by have := h.1; simp at this; omega
    unfold updKV
    split
    · refine ⟨by have := h.1; simp at this ⊢; omega, fun x hx => ?_⟩
      rcases List.mem_cons.1 hx with rfl | hx
      · exact ⟨hz.1, hv, hz.2.2⟩
      · exact ht.2 x hx
    · obtain ⟨i1, i2⟩ := ih ht
      refine ⟨by simp; omega, fun x hx => ?_⟩
      rcases List.mem_cons.1 hx with rfl | hx
      · exact hz
      · exact i2 x hx
theorem keyT_small (dn : Bool) (ys : List Int) (hr : ∀ x ∈ ys, 0 ≤ x ∧ x ≤ 255) : (keyT dn ys).length ≤ ys.length ∧ ∀ x ∈ keyT dn ys, 0 ≤ x ∧ x ≤ 255 := by
  unfold keyT
  refine ⟨?_, nkd_bytes dn (fun x hx => ?_)⟩
  · rw [nkd_length]
    have h1 := trimR_length (trimL (ys.take (cutI ys)))
    have h2 := trimL_length (ys.take (cutI ys))
    have h3 : (ys.take (cutI ys)).length ≤ ys.length := by rw [List.length_take]; omega
    omega
  · unfold trimR at hx
    have h1 : x ∈ (trimL (ys.take (cutI ys))).reverse := (List.dropWhile_suffix _).subset (List.mem_reverse.1 hx)
    have h2 : x ∈ ys.take (cutI ys) := by
      have := List.mem_reverse.1 h1
      unfold trimL at this
      exact (List.dropWhile_suffix _).subset this
    exact hr x (List.mem_of_mem_take h2)
theorem setGo_small (dn : Bool) : ∀ (f : Nat) (ys : List Int) (acc : List KVx) (b : Bool) (n : Nat) (R : List KVx) (bR : Bool), ys.length ≤ 200 → (∀ x ∈ ys, 0 ≤ x ∧ x ≤ 255) → Small n acc → setGo dn f ys acc b = some (R, bR) → Small (n + f) R
  | f, [], acc, b, n, R, bR, _, _, h, e => by
    have : setGo dn f [] acc b = some (acc, b) := by cases f <;> rfl
    rw [this] at e
    injection e with e
    injection e with e _
    subst e
    exact h.mono (by omega)
  | 0, y :: ys, acc, b, n, R, bR, _, _, _, e => by cases e
  | f + 1, y :: ys, acc, b, n, R, bR, hl, hr, h, e => by
    rw [setGo] at e
    obtain ⟨k1, k2⟩ := keyT_small dn (y :: ys) hr
    by_cases hk : keyT dn (y :: ys) = []
    · rw [if_pos hk] at e; cases e
    · rw [if_neg hk] at e
      have hacc : Small (n + 1) (if badK (keyT dn (y :: ys)) = true then acc else acc ++ [⟨keyT dn (y :: ys), [], true⟩]) := by
        split
        · exact h.mono (by omega)
        · refine ⟨by rw [List.length_append]; have := h.1; simp; omega, fun x hx => ?_⟩
          rcases List.mem_append.1 hx with hx | hx
          · exact h.2 x hx
          · rw [List.mem_singleton] at hx
            subst hx
            exact ⟨by show (keyT dn (y :: ys)).length ≤ 200; omega, by simp, k2⟩
      have := setGo_small dn f _ _ _ (n + 1) R bR (by rw [List.length_drop]; omega) (fun x hx => hr x (List.mem_of_mem_drop hx)) hacc e
      exact this.mono (by omega)
theorem step_told (dn : Bool) (L : List KVx) (s : Step) (b : Nat) (hb : b ≤ 1000000) (h : Small b L) (h1 : s.f1.size ≤ 200) (h2 : s.f2.size ≤ 200) :
    (stepF dn L s = none ∧ stepX dn L s = true) ∨ ∃ T is P dn' L', stepF dn L s = some ((T, is, P), dn', L') ∧ Small (b + 200) L' ∧ P.length ≤ b := by
  have hL := h.1
  have hsz := h.size
  have kb : (nkd dn (ns s.f1)).length ≤ 200 ∧ (ns s.f2).length ≤ 200 ∧ ∀ y ∈ nkd dn (ns s.f1), 0 ≤ y ∧ y ≤ 255 := ⟨by rw [nkd_length, ns_length]; exact h1, by rw [ns_length]; exact h2, nkd_bytes dn (fun x hx => ns_range s.f1 x hx)⟩
  unfold stepF
  rw [if_neg (by omega)]
  by_cases hd : s.f0 = 0 ∨ s.f0 = 1 ∨ s.f0 = 9
  · rw [if_pos hd]
    by_cases h0 : s.f1.size = 0
    · rw [if_pos h0]
      refine .inl ⟨rfl, ?_⟩
      unfold stepX
      rw [decide_eq_true (by omega), decide_eq_true hd, decide_eq_true h0]; rfl
    · rw [if_neg h0]
      right
      by_cases hk : badK (if s.f0 = 9 then ns s.f1 else nkd dn (ns s.f1)) = true
      · rw [if_pos hk]
        exact ⟨_, _, _, _, _, rfl, h.mono (by omega), by simp⟩
      · rw [if_neg hk]
        refine ⟨_, _, _, _, _, rfl, ?_, by simp⟩
        split
        · exact (set_small h kb).mono (by omega)
        · split
          · refine ⟨by rw [List.length_append]; simp; omega, fun x hx => ?_⟩
            rcases List.mem_append.1 hx with hx | hx
            · exact h.2 x hx
            · rw [List.mem_singleton] at hx
              subst hx
              exact kb
          · exact (upd_small h kb.2.1).mono (by omega)
  rw [if_neg hd]
  by_cases e2 : s.f0 = 2
  · rw [if_pos e2]
    refine .inr ⟨_, _, _, _, _, rfl, ?_, by simp⟩
    unfold delKV
    exact ⟨Nat.le_trans (List.length_filter_le _ _) (by omega), fun x hx => h.2 x (List.mem_filter.1 hx).1⟩
  rw [if_neg e2]
  by_cases e3 : s.f0 = 3
  · rw [if_pos e3]
    exact .inr ⟨_, _, _, _, _, rfl, h.mono (by omega), by simp⟩
  rw [if_neg e3]
  by_cases e4 : s.f0 = 4
  · rw [if_pos e4]
    cases hg : setGo dn s.f2.size (ns s.f2) [] false with
    | none =>
      refine .inl ⟨rfl, ?_⟩
      unfold stepX
      rw [decide_eq_true (by omega), decide_eq_true e4, hg]; simp
    | some r =>
      obtain ⟨R, bR⟩ := r
      refine .inr ⟨_, _, _, _, _, rfl, ?_, by simp⟩
      have := setGo_small dn _ _ [] false 0 R bR (by rw [ns_length]; exact h2) (fun x hx => ns_range s.f2 x hx) ⟨by simp, fun x hx => by simp at hx⟩ hg
      exact this.mono (by omega)
  rw [if_neg e4]
  by_cases e5 : s.f0 = 5
  · rw [if_pos e5, if_pos (by omega)]
    exact .inr ⟨_, _, _, _, _, rfl, h.mono (by omega), by simp⟩
  rw [if_neg e5]
  by_cases e6 : s.f0 = 6
  · rw [if_pos e6, if_pos ⟨h.rg, by omega⟩]
    exact .inr ⟨_, _, _, _, _, rfl, h.mono (by omega), by simp⟩
  rw [if_neg e6]
  by_cases e7 : s.f0 = 7
  · rw [if_pos e7]
    exact .inr ⟨_, _, _, _, _, rfl, h.mono (by omega), by rw [List.length_map]; omega⟩
  rw [if_neg e7]
  by_cases e8 : s.f0 = 8
  · rw [if_pos e8]
    exact .inr ⟨_, _, _, _, _, rfl, h.mono (by omega), by simp⟩
  rw [if_neg e8]
  by_cases e10 : s.f0 = 10
  · rw [if_pos e10]
    exact .inr ⟨_, _, _, _, _, rfl, h.mono (by omega), by simp⟩
  rw [if_neg e10]
  by_cases e11 : s.f0 = 11
  · rw [if_pos e11]
    exact .inr ⟨_, _, _, _, _, rfl, ⟨by simp, fun x hx => by simp at hx⟩, by simp⟩
  rw [if_neg e11]
  exact .inr ⟨_, _, _, _, _, rfl, h.mono (by omega), by simp⟩
theorem end_told {st : Option (Bool × List KVx)} {b : Nat} (hb : b ≤ 1000000) (h : ∀ dn L, st = some (dn, L) → Small b L) : ∃ t, ∀ acc, endF acc st = some (acc, t, st.isSome) := by
  cases st with
  | none => exact ⟨_, fun acc => rfl⟩
  | some y =>
    obtain ⟨dn, L⟩ := y
    have hL := h dn L rfl
    have := hL.size
    have := hL.1
    exact ⟨_, fun acc => if_pos ⟨by omega, hL.rg, by omega⟩⟩
theorem eqB_self (k : List Int) : eqB k k = true := by unfold eqB; exact beq_self_eq_true _
theorem script_cons {dn : Bool} {L : List KVx} {acc : List Ans} {s : Step} {r : List Step} {T : ByteArray} {is : Bool} {P : List Pair} {dn' : Bool} {L' : List KVx} (h : stepF dn L s = some ((T, is, P), dn', L')) : scriptF dn L acc (s :: r) = scriptF dn' L' (acc ++ [⟨T, is, 0, [], P⟩]) r := by
  rw [scriptF, h]
def stepV (s : Step) : List Value := [.int .i64 s.f0, .string s.f1, .string s.f2, .int .i64 s.f3, .int .i64 s.f4]
theorem steps_reps (W : World) (base : Nat) (ok : Nat → Prop) : ∀ l : List Step, Reps (k28.M W base ok) 5 l (l.flatMap stepV)
  | [] => Reps.none _ _
  | s :: r => by
    rw [List.flatMap_cons]
    exact Reps.c5 (k28_mkM W base ok s) (steps_reps W base ok r)
theorem steps_lit (w : World) (l : List Step) (hl : l.length ≤ 1000000) (cs : Array Value) (hcs : cs = (l.flatMap stepV).toArray) : Kd.C k28 (w.alloc (.cells cs 28)) (some ⟨w.heap.size, 0, none⟩) l.length l := by
  subst hcs
  have hrep := steps_reps w w.heap.size (fun _ => True) l
  have h2 := World.ownsRow_lit (base := w.heap.size) (e := 28) (size := 5) w (l.flatMap stepV).toArray l.length (Nat.le_refl _) (by unfold maxLen; omega) (by simpa using hrep.1)
  have hR : Kd.R k28 28 (w.alloc (.cells (l.flatMap stepV).toArray 28)) w.heap.size (fun _ => True) (.slice (some ⟨w.heap.size, 0, none⟩) l.length l.length) l := by
    refine ⟨fun k hk => trivial, l.flatMap stepV, by simpa [show k28.sz = 5 from rfl] using h2, ?_⟩
    exact (steps_reps _ _ _ l)
  exact (Kd.R_reads' hR).2.2
end Go.Proofs.Ytoimkmoalmmooaa.Own
namespace Go.Proofs.Ytoimkmoalmmooaa.Pure
open Go.RowKit Go.Proofs.Ytoimkmoalmmooaa.QA Go.Proofs.YtoimkmoalmmooaaW.PrintWords Go.Proofs.YtoimkmoalmmooaaW.PrintLast Go.Proofs.YtoimkmoalmmooaaW.PrintMore Go.Proofs.Ytoimkmoalmmooaa.Base Go.Proofs.Ytoimkmoalmmooaa.Given Go.Proofs.Ytoimkmoalmmooaa.Gv Go.Proofs.Ytoimkmoalmmooaa.Own
theorem self_str (s : ByteArray) : strOfNums (ns s) = s := ns_inj (ns_strOfNums (fun x hx => ns_range s x hx))
theorem script_is {l : List Step} {r : List Ans × ByteArray × Bool} (hl : l.length ≤ 1000000000) (h : scriptF false [] [] l = some r) : impl_TrailerScript.f l = some r := by
  unfold impl_TrailerScript.f
  rw [if_pos hl]; exact h
theorem add_get_script : ∃ T, scriptF false [] [] [⟨1, ⟨#[120, 45, 97]⟩, ⟨#[98]⟩, 0, 0⟩, ⟨3, ⟨#[88, 45, 65]⟩, ⟨#[]⟩, 0, 0⟩] = some ([⟨⟨#[]⟩, true, 0, [], []⟩, ⟨⟨#[98]⟩, false, 0, [], []⟩], T, true) := by
  have hk : ns (⟨#[88, 45, 65]⟩ : ByteArray) = [88, 45, 65] := by decide
  have hk2 : ns (⟨#[120, 45, 97]⟩ : ByteArray) = [120, 45, 97] := by decide
  have hb : ns (⟨#[98]⟩ : ByteArray) = [98] := by decide
  have hn : nk [88, 45, 65] = [88, 45, 65] := by decide
  have hn2 : nk [120, 45, 97] = [88, 45, 65] := by decide
  have e1 : stepF false [] ⟨1, ⟨#[120, 45, 97]⟩, ⟨#[98]⟩, 0, 0⟩ = some ((⟨#[]⟩, true, []), false, [⟨[88, 45, 65], [98], false⟩]) := by
    rw [stepF_1 false [] _ rfl (by simp) (by decide) (by decide) (by decide) (by
      show badK (nk (ns (⟨#[120, 45, 97]⟩ : ByteArray))) = false
      rw [hk2, hn2]; exact badK_x (by decide))]
    show some (_, _, [] ++ [(⟨nk (ns (⟨#[120, 45, 97]⟩ : ByteArray)), ns (⟨#[98]⟩ : ByteArray), false⟩ : KVx)]) = _
    rw [hk2, hn2, hb]; rfl
  have e3 : stepF false [⟨[88, 45, 65], [98], false⟩] ⟨3, ⟨#[88, 45, 65]⟩, ⟨#[]⟩, 0, 0⟩ = some ((⟨#[98]⟩, false, []), false, [⟨[88, 45, 65], [98], false⟩]) := by
    rw [stepF_3 _ _ _ rfl (by simp) (by decide) (by decide)]
    show some ((strOfNums ((getKV (nk (ns (⟨#[88, 45, 65]⟩ : ByteArray))) [(⟨[88, 45, 65], [98], false⟩ : KVx)]).getD []), false, ([] : List Pair)), false, [(⟨[88, 45, 65], [98], false⟩ : KVx)]) = _
    rw [hk, hn, show getKV [88, 45, 65] [⟨[88, 45, 65], [98], false⟩] = some [98] from by simp [getKV, eqB_self]]
    rfl
  rw [script_cons e1, script_cons e3, scriptF, if_pos ⟨by simp, by decide, by decide⟩]
  exact ⟨_, rfl⟩
theorem eqB_iff (a b : List Int) : eqB a b = true ↔ strOfNums a = strOfNums b := by
  unfold eqB
  rw [beq_iff_eq]
  exact toList_eq_iff _ _
theorem set_toP (k : List Int) (v : ByteArray) : ∀ (L : List KVx), (setKV k (ns v) L).map toP = setP (strOfNums k) v (L.map toP)
  | [] => by
    show [(⟨strOfNums k, strOfNums (ns v)⟩ : Pair)] = [⟨strOfNums k, v⟩]
    rw [self_str]
  | x :: t => by
    rw [setKV, List.map_cons, setP]
    by_cases h : eqB k x.k = true
    · rw [if_pos h, if_pos (show (toP x).f0 = strOfNums k from ((eqB_iff k x.k).1 h).symm)]
      show (⟨strOfNums x.k, strOfNums (ns v)⟩ : Pair) :: t.map toP = ⟨strOfNums x.k, v⟩ :: t.map toP
      rw [self_str]
    · rw [if_neg h, if_neg (fun e => h ((eqB_iff k x.k).2 (show strOfNums k = (toP x).f0 from e.symm))), List.map_cons, set_toP k v t]
theorem del_toP (key : ByteArray) (L : List KVx) : (delKV key L).map toP = withoutP (L.map toP) key := by
  unfold delKV withoutP
  induction L with
  | nil => rfl
  | cons x t ih =>
    rw [List.map_cons, List.filter_cons, List.filter_cons]
    have e : (!(key.toList == (strOfNums x.k).toList)) = !decide ((toP x).f0 = key) := by
      congr 1
      rw [Bool.eq_iff_iff, beq_iff_eq, decide_eq_true_eq, toList_eq_iff]
      exact ⟨fun h => h.symm, fun h => h.symm⟩
    rw [e]
    cases decide ((toP x).f0 = key) <;> simp [ih]
theorem get_toP (k : List Int) : ∀ (L : List KVx), strOfNums ((getKV k L).getD []) = (valuesP (L.map toP) (strOfNums k)).headD ⟨#[]⟩
  | [] => by
    show strOfNums [] = _
    exact ns_inj (by rw [ns_strOfNums (by simp)]; rfl)
  | x :: t => by
    have ih := get_toP k t
    unfold valuesP at ih ⊢
    rw [getKV, List.map_cons, List.filter_cons]
    by_cases h : eqB x.k k = true
    · rw [if_pos h, if_pos (by simpa using (show (toP x).f0 = strOfNums k from (eqB_iff x.k k).1 h))]
      rfl
    · rw [if_neg h, if_neg (show ¬ decide ((toP x).f0 = strOfNums k) = true from fun e => h ((eqB_iff x.k k).2 (of_decide_eq_true e))), ih]
def toIP (p : SP) : Pair := ⟨p.f0, p.f1⟩
def conv (a : SAn) : Ans := ⟨a.f0, a.f1, a.f2, a.f3, a.f4.map toIP⟩
theorem setS_toIP (key v : ByteArray) : ∀ L : List SP, (setS key v L).map toIP = setP key v (L.map toIP)
  | [] => rfl
  | p :: t => by
    rw [setS, List.map_cons, setP]
    by_cases h : p.f0 = key
    · rw [if_pos h, if_pos (show (toIP p).f0 = key from h)]; rfl
    · rw [if_neg h, if_neg (show ¬ (toIP p).f0 = key from h), List.map_cons, setS_toIP key v t]
theorem withoutS_toIP (key : ByteArray) (L : List SP) : (withoutS L key).map toIP = withoutP (L.map toIP) key := by
  unfold withoutS withoutP
  induction L with
  | nil => rfl
  | cons p t ih =>
    rw [List.map_cons, List.filter_cons, List.filter_cons]
    show _ = if (!decide (p.f0 = key)) = true then _ else _
    split
    · rw [List.map_cons, ih]
    · exact ih
theorem allS_toIP (key : ByteArray) (L : List SP) : allS L key = valuesP (L.map toIP) key := by
  unfold allS valuesP
  induction L with
  | nil => rfl
  | cons p t ih =>
    rw [List.map_cons, List.filter_cons, List.filter_cons]
    show _ = List.map _ (if (decide (p.f0 = key)) = true then _ else _)
    split
    · rw [List.map_cons, List.map_cons, ih]; rfl
    · exact ih
theorem ns_of_list (t : ByteArray) (l : List UInt8) (m : List Int) (h : t.toList = l) (hm : ns ⟨l.toArray⟩ = m) : ns t = m := by
  have : t = ⟨l.toArray⟩ := by
    rw [← toList_eq_iff, h, Lib.toList_data]
  rw [this, hm]
theorem badS_bad (K : List Int) (t : ByteArray) (e : ns t = K) (h : badS t = 1) : badK K = true ∧ K ≠ [] := by
  unfold badS at h
  by_cases c : t.toList = ([84, 114, 97, 110, 115, 102, 101, 114, 45, 69, 110, 99, 111, 100, 105, 110, 103] : List UInt8)
  · rw [ns_of_list t _ [84, 114, 97, 110, 115, 102, 101, 114, 45, 69, 110, 99, 111, 100, 105, 110, 103] c (by decide)] at e
    rw [← e]
    exact ⟨by decide, by simp⟩
  rw [if_neg c] at h
  clear c
  by_cases c : t.toList = ([67, 111, 110, 116, 101, 110, 116, 45, 76, 101, 110, 103, 116, 104] : List UInt8)
  · rw [ns_of_list t _ [67, 111, 110, 116, 101, 110, 116, 45, 76, 101, 110, 103, 116, 104] c (by decide)] at e
    rw [← e]
    exact ⟨by decide, by simp⟩
  rw [if_neg c] at h
  clear c
  by_cases c : t.toList = ([72, 111, 115, 116] : List UInt8)
  · rw [ns_of_list t _ [72, 111, 115, 116] c (by decide)] at e
    rw [← e]
    exact ⟨by decide, by simp⟩
  rw [if_neg c] at h
  clear c
  by_cases c : t.toList = ([84, 114, 97, 105, 108, 101, 114] : List UInt8)
  · rw [ns_of_list t _ [84, 114, 97, 105, 108, 101, 114] c (by decide)] at e
    rw [← e]
    exact ⟨by decide, by simp⟩
  rw [if_neg c] at h
  clear c
  by_cases c : t.toList = ([84, 101] : List UInt8)
  · rw [ns_of_list t _ [84, 101] c (by decide)] at e
    rw [← e]
    exact ⟨by decide, by simp⟩
  rw [if_neg c] at h
  clear c
  by_cases c : t.toList = ([67, 111, 110, 116, 101, 110, 116, 45, 84, 121, 112, 101] : List UInt8)
  · rw [ns_of_list t _ [67, 111, 110, 116, 101, 110, 116, 45, 84, 121, 112, 101] c (by decide)] at e
    rw [← e]
    exact ⟨by decide, by simp⟩
  rw [if_neg c] at h
  clear c
  by_cases c : t.toList = ([67, 111, 110, 116, 101, 110, 116, 45, 69, 110, 99, 111, 100, 105, 110, 103] : List UInt8)
  · rw [ns_of_list t _ [67, 111, 110, 116, 101, 110, 116, 45, 69, 110, 99, 111, 100, 105, 110, 103] c (by decide)] at e
    rw [← e]
    exact ⟨by decide, by simp⟩
  rw [if_neg c] at h
  clear c
  by_cases c : t.toList = ([67, 111, 110, 116, 101, 110, 116, 45, 82, 97, 110, 103, 101] : List UInt8)
  · rw [ns_of_list t _ [67, 111, 110, 116, 101, 110, 116, 45, 82, 97, 110, 103, 101] c (by decide)] at e
    rw [← e]
    exact ⟨by decide, by simp⟩
  rw [if_neg c] at h
  clear c
  by_cases c : t.toList = ([65, 117, 116, 104, 111, 114, 105, 122, 97, 116, 105, 111, 110] : List UInt8)
  · rw [ns_of_list t _ [65, 117, 116, 104, 111, 114, 105, 122, 97, 116, 105, 111, 110] c (by decide)] at e
    rw [← e]
    exact ⟨by decide, by simp⟩
  rw [if_neg c] at h
  clear c
  by_cases c : t.toList = ([67, 111, 110, 110, 101, 99, 116, 105, 111, 110] : List UInt8)
  · rw [ns_of_list t _ [67, 111, 110, 110, 101, 99, 116, 105, 111, 110] c (by decide)] at e
    rw [← e]
    exact ⟨by decide, by simp⟩
  rw [if_neg c] at h
  clear c
  by_cases c : t.toList = ([77, 97, 120, 45, 70, 111, 114, 119, 97, 114, 100, 115] : List UInt8)
  · rw [ns_of_list t _ [77, 97, 120, 45, 70, 111, 114, 119, 97, 114, 100, 115] c (by decide)] at e
    rw [← e]
    exact ⟨by decide, by simp⟩
  rw [if_neg c] at h
  clear c
  by_cases c : t.toList = ([69, 120, 112, 101, 99, 116] : List UInt8)
  · rw [ns_of_list t _ [69, 120, 112, 101, 99, 116] c (by decide)] at e
    rw [← e]
    exact ⟨by decide, by simp⟩
  rw [if_neg c] at h
  clear c
  by_cases c : t.toList = ([82, 97, 110, 103, 101] : List UInt8)
  · rw [ns_of_list t _ [82, 97, 110, 103, 101] c (by decide)] at e
    rw [← e]
    exact ⟨by decide, by simp⟩
  rw [if_neg c] at h
  clear c
  by_cases c : t.toList = ([87, 119, 119, 45, 65, 117, 116, 104, 101, 110, 116, 105, 99, 97, 116, 101] : List UInt8)
  · rw [ns_of_list t _ [87, 119, 119, 45, 65, 117, 116, 104, 101, 110, 116, 105, 99, 97, 116, 101] c (by decide)] at e
    rw [← e]
    exact ⟨by decide, by simp⟩
  rw [if_neg c] at h
  clear c
  by_cases c : t.toList = ([80, 114, 111, 120, 121, 45, 65, 117, 116, 104, 101, 110, 116, 105, 99, 97, 116, 101] : List UInt8)
  · rw [ns_of_list t _ [80, 114, 111, 120, 121, 45, 65, 117, 116, 104, 101, 110, 116, 105, 99, 97, 116, 101] c (by decide)] at e
    rw [← e]
    exact ⟨by decide, by simp⟩
  rw [if_neg c] at h
  clear c
  by_cases c : t.toList = ([80, 114, 111, 120, 121, 45, 65, 117, 116, 104, 111, 114, 105, 122, 97, 116, 105, 111, 110] : List UInt8)
  · rw [ns_of_list t _ [80, 114, 111, 120, 121, 45, 65, 117, 116, 104, 111, 114, 105, 122, 97, 116, 105, 111, 110] c (by decide)] at e
    rw [← e]
    exact ⟨by decide, by simp⟩
  rw [if_neg c] at h
  clear c
  split at h
  · exact absurd h (by decide)
  · exact absurd h (by decide)
theorem badS_good (K : List Int) (t : ByteArray) (e : ns t = K) (h : badS t = 0) : badK K = false ∧ K ≠ [] := by
  unfold badS at h
  by_cases c : t.toList = ([84, 114, 97, 110, 115, 102, 101, 114, 45, 69, 110, 99, 111, 100, 105, 110, 103] : List UInt8)
  · rw [if_pos c] at h
    exact absurd h (by decide)
  rw [if_neg c] at h
  clear c
  by_cases c : t.toList = ([67, 111, 110, 116, 101, 110, 116, 45, 76, 101, 110, 103, 116, 104] : List UInt8)
  · rw [if_pos c] at h
    exact absurd h (by decide)
  rw [if_neg c] at h
  clear c
  by_cases c : t.toList = ([72, 111, 115, 116] : List UInt8)
  · rw [if_pos c] at h
    exact absurd h (by decide)
  rw [if_neg c] at h
  clear c
  by_cases c : t.toList = ([84, 114, 97, 105, 108, 101, 114] : List UInt8)
  · rw [if_pos c] at h
    exact absurd h (by decide)
  rw [if_neg c] at h
  clear c
  by_cases c : t.toList = ([84, 101] : List UInt8)
  · rw [if_pos c] at h
    exact absurd h (by decide)
  rw [if_neg c] at h
  clear c
  by_cases c : t.toList = ([67, 111, 110, 116, 101, 110, 116, 45, 84, 121, 112, 101] : List UInt8)
  · rw [if_pos c] at h
    exact absurd h (by decide)
  rw [if_neg c] at h
  clear c
  by_cases c : t.toList = ([67, 111, 110, 116, 101, 110, 116, 45, 69, 110, 99, 111, 100, 105, 110, 103] : List UInt8)
  · rw [if_pos c] at h
    exact absurd h (by decide)
  rw [if_neg c] at h
  clear c
  by_cases c : t.toList = ([67, 111, 110, 116, 101, 110, 116, 45, 82, 97, 110, 103, 101] : List UInt8)
  · rw [if_pos c] at h
    exact absurd h (by decide)
  rw [if_neg c] at h
  clear c
  by_cases c : t.toList = ([65, 117, 116, 104, 111, 114, 105, 122, 97, 116, 105, 111, 110] : List UInt8)
  · rw [if_pos c] at h
    exact absurd h (by decide)
  rw [if_neg c] at h
  clear c
  by_cases c : t.toList = ([67, 111, 110, 110, 101, 99, 116, 105, 111, 110] : List UInt8)
  · rw [if_pos c] at h
    exact absurd h (by decide)
  rw [if_neg c] at h
  clear c
  by_cases c : t.toList = ([77, 97, 120, 45, 70, 111, 114, 119, 97, 114, 100, 115] : List UInt8)
  · rw [if_pos c] at h
    exact absurd h (by decide)
  rw [if_neg c] at h
  clear c
  by_cases c : t.toList = ([69, 120, 112, 101, 99, 116] : List UInt8)
  · rw [if_pos c] at h
    exact absurd h (by decide)
  rw [if_neg c] at h
  clear c
  by_cases c : t.toList = ([82, 97, 110, 103, 101] : List UInt8)
  · rw [if_pos c] at h
    exact absurd h (by decide)
  rw [if_neg c] at h
  clear c
  by_cases c : t.toList = ([87, 119, 119, 45, 65, 117, 116, 104, 101, 110, 116, 105, 99, 97, 116, 101] : List UInt8)
  · rw [if_pos c] at h
    exact absurd h (by decide)
  rw [if_neg c] at h
  clear c
  by_cases c : t.toList = ([80, 114, 111, 120, 121, 45, 65, 117, 116, 104, 101, 110, 116, 105, 99, 97, 116, 101] : List UInt8)
  · rw [if_pos c] at h
    exact absurd h (by decide)
  rw [if_neg c] at h
  clear c
  by_cases c : t.toList = ([80, 114, 111, 120, 121, 45, 65, 117, 116, 104, 111, 114, 105, 122, 97, 116, 105, 111, 110] : List UInt8)
  · rw [if_pos c] at h
    exact absurd h (by decide)
  rw [if_neg c] at h
  clear c
  by_cases c : 2 < t.size ∧ (t.extract 0 2).toList = ([88, 45] : List UInt8) ∧ wordS t = true
  · obtain ⟨c1, c2, _⟩ := c
    have q := ns_of_list _ _ [88, 45] c2 (by decide)
    rw [ns_extract, e, List.drop_zero] at q
    match K, q with
    | x :: r, q =>
      have hx : x = 88 := by simpa using congrArg (fun l => l.headD 0) q
      subst hx
      exact ⟨badK_x (by rw [List.map_cons]; rfl), by simp⟩
  · rw [if_neg c] at h
    exact absurd h (by decide)
theorem badS_tri (t : ByteArray) : badS t = 0 ∨ badS t = 1 ∨ badS t = 2 := by
  obtain ⟨v, hv⟩ : ∃ v, badS t = v := ⟨_, rfl⟩
  rw [hv]
  unfold badS at hv
  by_cases c : t.toList = ([84, 114, 97, 110, 115, 102, 101, 114, 45, 69, 110, 99, 111, 100, 105, 110, 103] : List UInt8)
  · rw [if_pos c] at hv; exact .inr (.inl hv.symm)
  rw [if_neg c] at hv
  clear c
  by_cases c : t.toList = ([67, 111, 110, 116, 101, 110, 116, 45, 76, 101, 110, 103, 116, 104] : List UInt8)
  · rw [if_pos c] at hv; exact .inr (.inl hv.symm)
  rw [if_neg c] at hv
  clear c
  by_cases c : t.toList = ([72, 111, 115, 116] : List UInt8)
  · rw [if_pos c] at hv; exact .inr (.inl hv.symm)
  rw [if_neg c] at hv
  clear c
  by_cases c : t.toList = ([84, 114, 97, 105, 108, 101, 114] : List UInt8)
  · rw [if_pos c] at hv; exact .inr (.inl hv.symm)
  rw [if_neg c] at hv
  clear c
  by_cases c : t.toList = ([84, 101] : List UInt8)
  · rw [if_pos c] at hv; exact .inr (.inl hv.symm)
  rw [if_neg c] at hv
  clear c
  by_cases c : t.toList = ([67, 111, 110, 116, 101, 110, 116, 45, 84, 121, 112, 101] : List UInt8)
  · rw [if_pos c] at hv; exact .inr (.inl hv.symm)
  rw [if_neg c] at hv
  clear c
  by_cases c : t.toList = ([67, 111, 110, 116, 101, 110, 116, 45, 69, 110, 99, 111, 100, 105, 110, 103] : List UInt8)
  · rw [if_pos c] at hv; exact .inr (.inl hv.symm)
  rw [if_neg c] at hv
  clear c
  by_cases c : t.toList = ([67, 111, 110, 116, 101, 110, 116, 45, 82, 97, 110, 103, 101] : List UInt8)
  · rw [if_pos c] at hv; exact .inr (.inl hv.symm)
  rw [if_neg c] at hv
  clear c
  by_cases c : t.toList = ([65, 117, 116, 104, 111, 114, 105, 122, 97, 116, 105, 111, 110] : List UInt8)
  · rw [if_pos c] at hv; exact .inr (.inl hv.symm)
  rw [if_neg c] at hv
  clear c
  by_cases c : t.toList = ([67, 111, 110, 110, 101, 99, 116, 105, 111, 110] : List UInt8)
  · rw [if_pos c] at hv; exact .inr (.inl hv.symm)
  rw [if_neg c] at hv
  clear c
  by_cases c : t.toList = ([77, 97, 120, 45, 70, 111, 114, 119, 97, 114, 100, 115] : List UInt8)
  · rw [if_pos c] at hv; exact .inr (.inl hv.symm)
  rw [if_neg c] at hv
  clear c
  by_cases c : t.toList = ([69, 120, 112, 101, 99, 116] : List UInt8)
  · rw [if_pos c] at hv; exact .inr (.inl hv.symm)
  rw [if_neg c] at hv
  clear c
  by_cases c : t.toList = ([82, 97, 110, 103, 101] : List UInt8)
  · rw [if_pos c] at hv; exact .inr (.inl hv.symm)
  rw [if_neg c] at hv
  clear c
  by_cases c : t.toList = ([87, 119, 119, 45, 65, 117, 116, 104, 101, 110, 116, 105, 99, 97, 116, 101] : List UInt8)
  · rw [if_pos c] at hv; exact .inr (.inl hv.symm)
  rw [if_neg c] at hv
  clear c
  by_cases c : t.toList = ([80, 114, 111, 120, 121, 45, 65, 117, 116, 104, 101, 110, 116, 105, 99, 97, 116, 101] : List UInt8)
  · rw [if_pos c] at hv; exact .inr (.inl hv.symm)
  rw [if_neg c] at hv
  clear c
  by_cases c : t.toList = ([80, 114, 111, 120, 121, 45, 65, 117, 116, 104, 111, 114, 105, 122, 97, 116, 105, 111, 110] : List UInt8)
  · rw [if_pos c] at hv; exact .inr (.inl hv.symm)
  rw [if_neg c] at hv
  clear c
  by_cases c : 2 < t.size ∧ (t.extract 0 2).toList = ([88, 45] : List UInt8) ∧ wordS t = true
  · rw [if_pos c] at hv; exact .inl hv.symm
  · rw [if_neg c] at hv; exact .inr (.inr hv.symm)
theorem said_core {L : List KVx} {Ls : List SP} (hLn : L.length ≤ 1000000) (hL : L.map toP = Ls.map toIP) (x : Step) (h1 : x.f1.size ≤ 200) (h2 : x.f2.size ≤ 200) {a : SAn} {Ls' : List SP} (hs : specStep Ls (toSt x) = some (a, Ls')) :
    ∃ L', stepF false L x = some ((a.f0, a.f1, a.f4.map toIP), false, L') ∧ L'.map toP = Ls'.map toIP ∧ a.f2 = 0 ∧ a.f3 = [] := by
  obtain ⟨key, hkey⟩ : ∃ key, skeyOf (toSt x) = key := ⟨_, rfl⟩
  have hkey' : strOfNums (nk (ns x.f1)) = key := hkey
  have hr : ∀ y ∈ nk (ns x.f1), 0 ≤ y ∧ y ≤ 255 := nkd_bytes false (fun y hy => ns_range _ y hy)
  have hns : ns key = nk (ns x.f1) := by rw [← hkey']; exact ns_strOfNums hr
  have hlen : L.length = Ls.length := by have := congrArg List.length hL; simpa using this
  unfold specStep at hs
  rw [hkey] at hs
  unfold stepF
  rw [if_neg (by omega)]
  by_cases d01 : x.f0 = 0 ∨ x.f0 = 1
  · rw [if_pos (show (toSt x).f0 = 0 ∨ (toSt x).f0 = 1 from d01)] at hs
    rw [if_pos (by omega)]
    by_cases c1 : badS key = 2
    · rw [if_pos c1] at hs; cases hs
    rw [if_neg c1] at hs
    by_cases c2 : isPrinted (toSt x).f2 = false
    · rw [if_pos c2] at hs; cases hs
    rw [if_neg c2] at hs
    by_cases c3 : (toSt x).f2 = ⟨#[]⟩
    · rw [if_pos c3] at hs; cases hs
    rw [if_neg c3] at hs
    by_cases c4 : (toSt x).f0 = 0 ∧ 1 < (allS Ls key).length
    · rw [if_pos c4] at hs; cases hs
    rw [if_neg c4] at hs
    rw [if_neg (show ¬ x.f0 = 9 by omega)]
    show ∃ L', (if x.f1.size = 0 then none else if badK (nk (ns x.f1)) = true then _ else _) = _ ∧ _
    by_cases c5 : badS key = 0
    · rw [if_pos c5] at hs
      obtain ⟨g1, g2⟩ := badS_good _ key hns c5
      have hne : ¬ x.f1.size = 0 := fun h => g2 (List.length_eq_zero_iff.1 (by rw [nk_length, ns_length]; exact h))
      rw [if_neg hne, if_neg (by rw [g1]; decide)]
      injection hs with hs
      injection hs with ha hL'
      subst ha hL'
      rcases d01 with d | d
      · refine ⟨setKV (nk (ns x.f1)) (ns x.f2) L, by rw [if_pos d]; rfl, ?_, rfl, rfl⟩
        rw [if_pos (show (toSt x).f0 = 0 from d), set_toP, hkey', hL, setS_toIP]; rfl
      · refine ⟨L ++ [⟨nk (ns x.f1), ns x.f2, false⟩], by rw [if_neg (by omega), if_pos d]; rfl, ?_, rfl, rfl⟩
        rw [if_neg (show ¬ (toSt x).f0 = 0 by show ¬ x.f0 = 0; omega), List.map_append, List.map_append, hL]
        show _ ++ [(⟨strOfNums (nk (ns x.f1)), strOfNums (ns x.f2)⟩ : Pair)] = _
        rw [hkey', self_str]; rfl
    · rw [if_neg c5] at hs
      have c6 : badS key = 1 := by
        have := badS_tri key
        omega
      obtain ⟨g1, g2⟩ := badS_bad _ key hns c6
      have hne : ¬ x.f1.size = 0 := fun h => g2 (List.length_eq_zero_iff.1 (by rw [nk_length, ns_length]; exact h))
      rw [if_neg hne, if_pos g1]
      injection hs with hs
      injection hs with ha hL'
      subst ha hL'
      exact ⟨L, rfl, hL, rfl, rfl⟩
  rw [if_neg (show ¬ ((toSt x).f0 = 0 ∨ (toSt x).f0 = 1) from d01)] at hs
  by_cases d2 : x.f0 = 2
  · rw [if_pos (show (toSt x).f0 = 2 from d2)] at hs
    rw [if_neg (by omega), if_pos d2]
    by_cases c1 : wordS (toSt x).f1 = true
    · rw [if_pos c1] at hs
      injection hs with hs
      injection hs with ha hL'
      subst ha hL'
      exact ⟨_, rfl, by rw [del_toP, hL, withoutS_toIP]; show withoutP _ (strOfNums (nk (ns x.f1))) = _; rw [hkey'], rfl, rfl⟩
    · rw [if_neg c1] at hs; cases hs
  rw [if_neg (show ¬ (toSt x).f0 = 2 from d2)] at hs
  by_cases d3 : x.f0 = 3
  · rw [if_pos (show (toSt x).f0 = 3 from d3)] at hs
    rw [if_neg (by omega), if_neg d2, if_pos d3]
    by_cases c1 : wordS (toSt x).f1 = true
    · rw [if_pos c1] at hs
      injection hs with hs
      injection hs with ha hL'
      subst ha hL'
      refine ⟨L, ?_, hL, rfl, rfl⟩
      show some ((strOfNums ((getKV (nk (ns x.f1)) L).getD []), false, []), false, L) = _
      rw [get_toP, hL, hkey', ← allS_toIP]; rfl
    · rw [if_neg c1] at hs; cases hs
  rw [if_neg (show ¬ (toSt x).f0 = 3 from d3)] at hs
  by_cases d7 : x.f0 = 7
  · rw [if_pos (show (toSt x).f0 = 7 from d7)] at hs
    rw [if_neg (by omega), if_neg d2, if_neg d3, if_neg (by omega), if_neg (by omega), if_neg (by omega), if_pos d7]
    injection hs with hs
    injection hs with ha hL'
    subst ha hL'
    exact ⟨L, by rw [hL], hL, rfl, rfl⟩
  rw [if_neg (show ¬ (toSt x).f0 = 7 from d7)] at hs
  by_cases d8 : x.f0 = 8
  · rw [if_pos (show (toSt x).f0 = 8 from d8)] at hs
    rw [if_neg (by omega), if_neg d2, if_neg d3, if_neg (by omega), if_neg (by omega), if_neg (by omega), if_neg d7, if_pos d8]
    injection hs with hs
    injection hs with ha hL'
    subst ha hL'
    refine ⟨L, ?_, hL, rfl, rfl⟩
    rw [show decide (L.length = 0) = decide ((Ls.length : Int) = 0) from decide_eq_decide.2 (by rw [hlen]; omega)]; rfl
  rw [if_neg (show ¬ (toSt x).f0 = 8 from d8)] at hs
  by_cases d11 : x.f0 = 11
  · rw [if_pos (show (toSt x).f0 = 11 from d11)] at hs
    rw [if_neg (by omega), if_neg d2, if_neg d3, if_neg (by omega), if_neg (by omega), if_neg (by omega), if_neg d7, if_neg d8, if_neg (by omega), if_pos d11]
    injection hs with hs
    injection hs with ha hL'
    subst ha hL'
    exact ⟨[], rfl, rfl, rfl, rfl⟩
  rw [if_neg (show ¬ (toSt x).f0 = 11 from d11)] at hs
  cases hs
theorem said_run : ∀ (l : List Step) (L : List KVx) (Ls : List SP) (acc bs : List SAn) (b : Nat), b + 200 * l.length ≤ 1000000 → Small b L → L.map toP = Ls.map toIP → (∀ s ∈ l, s.f1.size ≤ 200 ∧ s.f2.size ≤ 200) → specRun Ls acc (l.map toSt) = some bs →
    ∃ cs L', bs = acc ++ cs ∧ runF false L l = some (cs.map conv, some (false, L')) ∧ Small (b + 200 * l.length) L' ∧ cs.length = l.length ∧ ∀ c ∈ cs, c.f3 = [] ∧ c.f4.length ≤ 1000000
  | [], L, Ls, acc, bs, b, _, h, _, _, e => by
    have e : some acc = some bs := e
    injection e with e
    subst e
    exact ⟨[], L, by simp, rfl, h, rfl, by simp⟩
  | x :: r, L, Ls, acc, bs, b, hb, h, hL, hz, e => by
    rw [List.length_cons] at hb
    obtain ⟨z1, z2⟩ := hz x (by simp)
    have e : (match specStep Ls (toSt x) with
      | none => none
      | some (a, L') => specRun L' (acc ++ [a]) (r.map toSt)) = some bs := e
    cases hs : specStep Ls (toSt x) with
    | none => rw [hs] at e; cases e
    | some y =>
      obtain ⟨a, Ls'⟩ := y
      rw [hs] at e
      have e : specRun Ls' (acc ++ [a]) (r.map toSt) = some bs := e
      obtain ⟨L1, s1, s2, s3, s4⟩ := said_core (by have := h.1; omega) hL x z1 z2 hs
      have hsm : Small (b + 200) L1 ∧ (a.f4.map toIP).length ≤ b := by
        rcases step_told false L x b (by omega) h z1 z2 with ⟨q1, _⟩ | ⟨T, is, P, dn', L', q1, q2, q3⟩
        · rw [q1] at s1; cases s1
        · rw [s1] at q1
          injection q1 with q1
          injection q1 with q1 q4
          injection q4 with q4 q5
          injection q1 with q1 q6
          injection q6 with q6 q7
          subst q5 q7
          exact ⟨q2, q3⟩
      obtain ⟨cs, L', i1, i2, i3, i4, i5⟩ := said_run r L1 Ls' (acc ++ [a]) bs (b + 200) (by omega) hsm.1 s2 (fun s hs => hz s (List.mem_cons_of_mem _ hs)) e
      refine ⟨a :: cs, L', by rw [i1]; simp, ?_, by rw [List.length_cons, show b + 200 * (r.length + 1) = b + 200 + 200 * r.length by omega]; exact i3, by rw [List.length_cons, List.length_cons, i4], fun c hc => ?_⟩
      · rw [runF, s1]
        show (runF false L1 r).map _ = _
        rw [i2]
        show some ((⟨a.f0, a.f1, 0, [], a.f4.map toIP⟩ : Ans) :: cs.map conv, _) = some (conv a :: cs.map conv, _)
        unfold conv
        rw [s3, s4]
      · rcases List.mem_cons.1 hc with rfl | hc
        · exact ⟨s4, by have := hsm.2; rw [List.length_map] at this; omega⟩
        · exact i5 c hc
theorem said_script (l : List Step) (bs : List SAn) (hl : l.length ≤ 40) (hz : ∀ s ∈ l, s.f1.size ≤ 200 ∧ s.f2.size ≤ 200) (h : specRun [] [] (l.map toSt) = some bs) :
    ∃ T, impl_TrailerScript.f l = some (bs.map conv, T, true) ∧ bs.length = l.length ∧ ∀ c ∈ bs, c.f3 = [] ∧ c.f4.length ≤ 1000000 := by
  obtain ⟨cs, L', h1, h2, h3, h4, h5⟩ := said_run l [] [] [] bs 0 (by omega) ⟨by simp, by simp⟩ rfl hz h
  rw [List.nil_append] at h1
  subst h1
  obtain ⟨t, ht⟩ := end_told (st := some (false, L')) (b := 0 + 200 * l.length) (by omega) (fun dn L e => by
    injection e with e
    injection e with e1 e2
    subst e2
    exact h3)
  refine ⟨t, script_is (by omega) ?_, h4, h5⟩
  rw [script_run, h2, Option.bind_some]
  simp only [List.nil_append]
  rw [ht]; rfl
end Go.Proofs.Ytoimkmoalmmooaa.Pure
namespace Go.Proofs.Ytoimkmoalmmooaa.Pure
open Go.RowKit Go.Proofs.Ytoimkmoalmmooaa.QA Go.Proofs.YtoimkmoalmmooaaW.PrintWords Go.Proofs.YtoimkmoalmmooaaW.PrintLast Go.Proofs.YtoimkmoalmmooaaW.PrintMore Go.Proofs.Ytoimkmoalmmooaa.Base Go.Proofs.Ytoimkmoalmmooaa.Given Go.Proofs.Ytoimkmoalmmooaa.Gv Go.Proofs.Ytoimkmoalmmooaa.Own
theorem eqS (d : Nat) (w : World) (x0 y0 : ByteArray) (x1 y1 : ByteArray) :
    (Op.equalIn (d + 2) 72 (.agg #[.string x0, .string x1]) (.agg #[.string y0, .string y1])).run Try.prog w = .ok (x0.toList == y0.toList && (x1.toList == y1.toList)) w := by
  refine eqA_of Try.underlying72 (by kernel_rfl) ?_
  refine eqf_cons (by rfl) (by go_simp; rfl) (by go_simp; rfl) (by go_simp) ?_
  exact eqf_last (by rfl) (by go_simp; rfl) (by go_simp; rfl) (by go_simp)
attribute [local go_sem high] eqS
set_option maxHeartbeats 2000000 in
set_option maxRecDepth 100000 in
theorem alike_calls (w : World) (a : SAn) (h3 : a.f3 = []) (A3 B3 : Option Addr) (c3 d3 : Nat) (A4 B4 : Option Addr) (c4 d4 : Nat) (hA3 : Kd.C Kd.string w A3 0 []) (hB3 : Kd.C Kd.string w B3 0 []) (hA : Kd.C k34 w A4 a.f4.length (a.f4.map toIP)) (hB : Kd.C k72 w B4 a.f4.length a.f4) (hl : a.f4.length ≤ 1000000) :
    Calls Try.prog 39 #[.agg #[.string a.f0, .bool a.f1, .int .i64 a.f2, .slice A3 0 c3, .slice A4 a.f4.length c4], .agg #[.string a.f0, .bool a.f1, .int .i64 a.f2, .slice B3 0 d3, .slice B4 a.f4.length d4]] w fun e w' => e = .returned (.bool true) ∧ Below w.heap.size w w' := by
  obtain ⟨ks, hks⟩ := sameTexts_ends [] [] (by decide)
  have HST := Lib.hid (fun W (h1 : Kd.C Kd.string W A3 0 []) (h2 : Kd.C Kd.string W B3 0 []) => laws_sameTexts.calls ks A3 c3 [] B3 d3 [] _ W h1 (Nat.zero_le _) h2 (Nat.zero_le _) (hks ks (Nat.le_refl _)))
  have HA3 := Lib.hid hA3
  have HB3 := Lib.hid hB3
  have HA := Lib.hid hA
  have HB := Lib.hid hB
  obtain ⟨W2, hW2⟩ : ∃ X, (w.alloc (.cells #[.string a.f0, .bool a.f1, .int .i64 a.f2, .slice A3 0 c3, .slice A4 a.f4.length c4] 32)).alloc (.cells #[.string a.f0, .bool a.f1, .int .i64 a.f2, .slice B3 0 d3, .slice B4 a.f4.length d4] 68) = X := ⟨_, rfl⟩
  have hn := two_newS w (.cells #[.string a.f0, .bool a.f1, .int .i64 a.f2, .slice A3 0 c3, .slice A4 a.f4.length c4] 32) (.cells #[.string a.f0, .bool a.f1, .int .i64 a.f2, .slice B3 0 d3, .slice B4 a.f4.length d4] 68)
  rw [hW2] at hn
  obtain ⟨p2, p3, hb2⟩ := hn
  have HW2 := Lib.hid hW2
  have HB2 := Lib.hid hb2
  have P2 := Lib.hid p2
  have P3 := Lib.hid p3
  have a0 := (cell_of_row W2 w.heap.size 0 _ _ (0, 0) p2).trans rfl
  have b0 := (cell_of_row W2 (w.heap.size + 1) 0 _ _ (0, 0) p3).trans rfl
  have a1 := (cell_of_row W2 w.heap.size 1 _ _ (0, 0) p2).trans rfl
  have b1 := (cell_of_row W2 (w.heap.size + 1) 1 _ _ (0, 0) p3).trans rfl
  have a2 := (cell_of_row W2 w.heap.size 2 _ _ (0, 0) p2).trans rfl
  have b2 := (cell_of_row W2 (w.heap.size + 1) 2 _ _ (0, 0) p3).trans rfl
  have a3 := (cell_of_row W2 w.heap.size 3 _ _ (0, 0) p2).trans rfl
  have b3 := (cell_of_row W2 (w.heap.size + 1) 3 _ _ (0, 0) p3).trans rfl
  have a4 := (cell_of_row W2 w.heap.size 4 _ _ (0, 0) p2).trans rfl
  have b4 := (cell_of_row W2 (w.heap.size + 1) 4 _ _ (0, 0) p3).trans rfl
  clear hks hA3 hB3 hA hB hW2 hb2 p2 p3 h3
  go_enter Try.func39, Try.ntmps39
  go_upto_region 1 with (fail)
  rw [HW2.out]
  go_wp2_with (go_at_call 54; refine (HST.out _ (Kd.C_below HA3.out (by repeat (first | (with_reducible first | exact HB2.out | apply below_alloc | apply pw_below_drewN | apply below_drew1) | exact HB2.out))) (Kd.C_below HB3.out (by repeat (first | (with_reducible first | exact HB2.out | apply below_alloc | apply pw_below_drewN | apply below_drew1) | exact HB2.out)))).mono ?_; rintro e w' ⟨rfl, ⟨n, rfl⟩⟩)
  go_loopw [45] (fun iv wr => ∃ (i : Nat), iv = .int .i64 i ∧ i ≤ a.f4.length ∧ Hid (Below W2.heap.size W2 wr)) (fun iv _ => a.f4.length - (intOf iv).toNat)
  case atStart => exact ⟨0, rfl, by omega, Lib.hid (by repeat (first | (with_reducible first | exact Below.refl _ _ | apply below_alloc | apply pw_below_drewN | apply below_drew1) | exact Below.refl _ _))⟩
  case round =>
    obtain ⟨i, rfl, hi, HX⟩ := hrel
    by_cases hlt : i < a.f4.length
    · obtain ⟨p, hp⟩ : ∃ p, a.f4[i] = p := ⟨_, rfl⟩
      have hlt' : decide ((i : Int) < (a.f4.length : Int)) = true := decide_eq_true (by omega)
      have hl1 : (i : Int) < (a.f4.length : Int) := by omega
      have hbw := HB2.out.trans (bwk HB2.out.size HX.out)
      have hlt2 : i < (a.f4.map toIP).length := by rw [List.length_map]; exact hlt
      obtain ⟨ad, e0, y0, y1⟩ := at_T34 (Kd.C_below HA.out hbw) (i : Int) (by omega) (by omega)
      obtain ⟨ae, e1, z0, z1⟩ := at_T72 (Kd.C_below HB.out hbw) (i : Int) (by omega) (by omega)
      cases e0
      cases e1
      rw [rdPair_nat _ _ hlt2, List.getElem_map, hp] at y0 y1
      rw [rdS_nat _ _ hlt, hp] at z0 z1
      replace y0 : wr.cell? (ad.add ((i : Int).toNat * 2)) = some (.string p.f0) := y0
      replace y1 : wr.cell? ⟨(ad.add ((i : Int).toNat * 2)).block, (ad.add ((i : Int).toNat * 2)).off + 1, none⟩ = some (.string p.f1) := y1
      simp only [Int.toNat_natCast] at y0 y1 z0 z1
      have r4 := (HX.out.cell (World.block_lt_of_cell? _ _ a4)).trans a4
      have s4 := (HX.out.cell (World.block_lt_of_cell? _ _ b4)).trans b4
      clear hbw hlt2 hp
      go_wp2
      go_quiet (fail)
      go_wp2
      exact ⟨⟨i + 1, by simp, by omega, Lib.hid (HX.out.trans (bwk HX.out.size (by repeat (first | (with_reducible first | exact Below.refl _ _ | apply below_alloc | apply pw_below_drewN | apply below_drew1) | exact Below.refl _ _))))⟩, by simp [intOf]; omega⟩
    · obtain rfl : i = a.f4.length := by omega
      have hq_ : ¬ (a.f4.length : Int) < (a.f4.length : Int) := by omega
      go_wp2
      go_ret
      exact ⟨rfl, HB2.out.trans (bwk HB2.out.size HX.out)⟩
end Go.Proofs.Ytoimkmoalmmooaa.Pure
namespace Go.Proofs.Ytoimkmoalmmooaa.Pure
open Go.RowKit Go.Proofs.Ytoimkmoalmmooaa.QA Go.Proofs.YtoimkmoalmmooaaW.PrintWords Go.Proofs.YtoimkmoalmmooaaW.PrintLast Go.Proofs.YtoimkmoalmmooaaW.PrintMore Go.Proofs.Ytoimkmoalmmooaa.Base Go.Proofs.Ytoimkmoalmmooaa.Given Go.Proofs.Ytoimkmoalmmooaa.Gv Go.Proofs.Ytoimkmoalmmooaa.Own
set_option maxHeartbeats 2000000 in
set_option maxRecDepth 100000 in
theorem alikeAll_calls (w : World) (bs : List SAn) (hb : ∀ b ∈ bs, b.f3 = [] ∧ b.f4.length ≤ 1000000) (hn : bs.length ≤ 1000000) (A B : Option Addr) (c d : Nat) (hA : Kd.C k32 w A bs.length (bs.map conv)) (hB : Kd.C k68 w B bs.length bs) :
    Calls Try.prog 25 #[.slice A bs.length c, .slice B bs.length d] w fun e w' => e = .returned (.bool true) ∧ Below w.heap.size w w' := by
  have HA := Lib.hid hA
  have HB := Lib.hid hB
  have HBB := Lib.hid hb
  clear hA hB hb
  go_enter Try.func25, Try.ntmps25
  go_wp2
  go_loopw [13] (fun iv wr => ∃ (i : Nat), iv = .int .i64 i ∧ i ≤ bs.length ∧ Hid (Below w.heap.size w wr)) (fun iv _ => bs.length - (intOf iv).toNat)
  case atStart => exact ⟨0, rfl, by omega, Lib.hid (Below.refl _ _)⟩
  case round =>
    obtain ⟨i, rfl, hi, HX⟩ := hrel
    by_cases hlt : i < bs.length
    · obtain ⟨b, hbb⟩ : ∃ b, bs[i] = b := ⟨_, rfl⟩
      have hlt' : decide ((i : Int) < (bs.length : Int)) = true := decide_eq_true (by omega)
      have hl1 : (i : Int) < (bs.length : Int) := by omega
      have hlt2 : i < (bs.map conv).length := by rw [List.length_map]; exact hlt
      obtain ⟨h3, h4⟩ := HBB.out b (by rw [← hbb]; exact List.getElem_mem hlt)
      have e1 : rd_T32 (bs.map conv) (i : Int) = conv b := by
        unfold rd_T32
        rw [List.getD_eq_getElem?_getD, Int.toNat_natCast, List.getElem?_eq_getElem hlt2, List.getElem_map, hbb]; rfl
      have e2 : rd_T68 bs (i : Int) = b := by
        unfold rd_T68
        rw [List.getD_eq_getElem?_getD, Int.toNat_natCast, List.getElem?_eq_getElem hlt, hbb]; rfl
      obtain ⟨ad, A3, c3, A4, c4, e0, y0, y1, y2, y3, y4, l3, g3, l4, g4⟩ := at_T32 (Kd.C_below HA.out HX.out) (i : Int) (by omega) (by omega)
      obtain ⟨ae, B3, d3, B4, d4, e0', z0, z1, z2, z3, z4, m3, k3, m4, k4⟩ := at_T68 (Kd.C_below HB.out HX.out) (i : Int) (by omega) (by omega)
      cases e0
      cases e0'
      rw [e1] at y0 y1 y2 y3 y4 l3 g3 l4 g4
      rw [e2] at z0 z1 z2 z3 z4 m3 k3 m4 k4
      have q3 : (conv b).f3 = [] := h3
      have q4 : (conv b).f4.length = b.f4.length := List.length_map _
      rw [q3] at y3 g3
      rw [q4] at y4 g4
      rw [h3] at z3 k3
      simp only [Int.toNat_natCast] at y0 y1 y2 y3 y4 z0 z1 z2 z3 z4
      replace y0 : wr.cell? (ad.add (i * 5)) = some (.string b.f0) := y0
      replace y1 : wr.cell? ⟨(ad.add (i * 5)).block, (ad.add (i * 5)).off + 1, none⟩ = some (.bool b.f1) := y1
      replace y2 : wr.cell? ⟨(ad.add (i * 5)).block, (ad.add (i * 5)).off + 2, none⟩ = some (.int .i64 b.f2) := y2
      replace y3 : wr.cell? ⟨(ad.add (i * 5)).block, (ad.add (i * 5)).off + 3, none⟩ = some (.slice A3 0 c3) := y3
      replace z3 : wr.cell? ⟨(ae.add (i * 5)).block, (ae.add (i * 5)).off + 3, none⟩ = some (.slice B3 0 d3) := z3
      have HAL := Lib.hid (fun W2 (h : Below wr.heap.size wr W2) => alike_calls W2 b h3 A3 B3 c3 d3 A4 B4 c4 d4 (Kd.C_below g3 h) (Kd.C_below k3 h) (Kd.C_below g4 h) (Kd.C_below k4 h) h4)
      clear e1 e2 l3 g3 l4 g4 m3 k3 m4 k4 q3 q4 h3 h4 hbb hlt2
      go_wp2
      refine start_ (n := 10) (S := fun w' => w'.cell? (ad.add (i * 5)) = some (.string b.f0) ∧ w'.cell? ⟨(ad.add (i * 5)).block, (ad.add (i * 5)).off + 1, none⟩ = some (.bool b.f1) ∧ w'.cell? ⟨(ad.add (i * 5)).block, (ad.add (i * 5)).off + 2, none⟩ = some (.int .i64 b.f2) ∧ w'.cell? ⟨(ad.add (i * 5)).block, (ad.add (i * 5)).off + 3, none⟩ = some (.slice A3 0 c3) ∧ w'.cell? ⟨(ad.add (i * 5)).block, (ad.add (i * 5)).off + 4, none⟩ = some (.slice A4 b.f4.length c4) ∧ w'.cell? (ae.add (i * 5)) = some (.string b.f0) ∧ w'.cell? ⟨(ae.add (i * 5)).block, (ae.add (i * 5)).off + 1, none⟩ = some (.bool b.f1) ∧ w'.cell? ⟨(ae.add (i * 5)).block, (ae.add (i * 5)).off + 2, none⟩ = some (.int .i64 b.f2) ∧ w'.cell? ⟨(ae.add (i * 5)).block, (ae.add (i * 5)).off + 3, none⟩ = some (.slice B3 0 d3) ∧ w'.cell? ⟨(ae.add (i * 5)).block, (ae.add (i * 5)).off + 4, none⟩ = some (.slice B4 b.f4.length d4)) (ds := []) #[false,false,false,false,false,false,false,false,false,false] (by kernel_rfl) rfl rfl ⟨y0, y1, y2, y3, y4, z0, z1, z2, z3, z4⟩ (fun hHeld => ?_)
      generalize hWd : World.drew wr = W2_ at hHeld ⊢
      refine pure_ (i := 0) (N := some 16) (v := ?_) (a' := ?_) #[true,false,false,false,false,false,false,false,false,false] rfl rfl (by kernel_rfl) (fun _ _ _ h => h) (Or.inl ⟨by rfl, ?_⟩) ?_ ?_
      rotate_left
      · intro w'
        go_simp
        with_reducible rfl
      rotate_left
      · simp only [Act.put, List.setIfInBounds_toArray, List.set_cons_zero, List.set_cons_succ, i64_w, i32_w]
        rfl
      refine pure_ (i := 1) (N := some 17) (v := ?_) (a' := ?_) #[true,true,false,false,false,false,false,false,false,false] rfl rfl (by kernel_rfl) (fun _ _ _ h => h) (Or.inl ⟨by rfl, ?_⟩) ?_ ?_
      rotate_left
      · intro w'
        go_simp
        with_reducible rfl
      rotate_left
      · simp only [Act.put, List.setIfInBounds_toArray, List.set_cons_zero, List.set_cons_succ, i64_w, i32_w]
        rfl
      refine pure_ (i := 2) (N := some 18) (v := ?_) (a' := ?_) #[true,true,true,false,false,false,false,false,false,false] rfl rfl (by kernel_rfl) (fun _ _ _ h => h) (Or.inl ⟨by rfl, ?_⟩) ?_ ?_
      rotate_left
      · intro w'
        go_simp
        with_reducible rfl
      rotate_left
      · simp only [Act.put, List.setIfInBounds_toArray, List.set_cons_zero, List.set_cons_succ, i64_w, i32_w]
        rfl
      refine take_ (i := 3) (N := some 19) (v := ?_) (a' := ?_) #[true,true,true,true,false,false,false,false,false,false] rfl rfl (by kernel_rfl) (fun _ _ _ h => h) (Or.inl ⟨by rfl, ?_⟩) hHeld ?_ ?_
      rotate_left
      · rintro w' ⟨s0, s1, s2, s3, s4, s5, s6, s7, s8, s9⟩
        go_simp
        with_reducible rfl
      rotate_left
      · simp only [Act.put, List.setIfInBounds_toArray, List.set_cons_zero, List.set_cons_succ, i64_w, i32_w]
        rfl
      refine pure_ (i := 4) (N := some 20) (v := ?_) (a' := ?_) #[true,true,true,true,true,false,false,false,false,false] rfl rfl (by kernel_rfl) (fun _ _ _ h => h) (Or.inl ⟨by rfl, ?_⟩) ?_ ?_
      rotate_left
      · intro w'
        go_simp
        with_reducible rfl
      rotate_left
      · simp only [Act.put, List.setIfInBounds_toArray, List.set_cons_zero, List.set_cons_succ, i64_w, i32_w]
        rfl
      refine pure_ (i := 5) (N := some 21) (v := ?_) (a' := ?_) #[true,true,true,true,true,true,false,false,false,false] rfl rfl (by kernel_rfl) (fun _ _ _ h => h) (Or.inl ⟨by rfl, ?_⟩) ?_ ?_
      rotate_left
      · intro w'
        go_simp
        with_reducible rfl
      rotate_left
      · simp only [Act.put, List.setIfInBounds_toArray, List.set_cons_zero, List.set_cons_succ, i64_w, i32_w]
        rfl
      refine pure_ (i := 6) (N := some 22) (v := ?_) (a' := ?_) #[true,true,true,true,true,true,true,false,false,false] rfl rfl (by kernel_rfl) (fun _ _ _ h => h) (Or.inl ⟨by rfl, ?_⟩) ?_ ?_
      rotate_left
      · intro w'
        go_simp
        with_reducible rfl
      rotate_left
      · simp only [Act.put, List.setIfInBounds_toArray, List.set_cons_zero, List.set_cons_succ, i64_w, i32_w]
        rfl
      refine take_ (i := 7) (N := some 23) (v := ?_) (a' := ?_) #[true,true,true,true,true,true,true,true,false,false] rfl rfl (by kernel_rfl) (fun _ _ _ h => h) (Or.inl ⟨by rfl, ?_⟩) hHeld ?_ ?_
      rotate_left
      · rintro w' ⟨s0, s1, s2, s3, s4, s5, s6, s7, s8, s9⟩
        go_simp
        with_reducible rfl
      rotate_left
      · simp only [Act.put, List.setIfInBounds_toArray, List.set_cons_zero, List.set_cons_succ, i64_w, i32_w]
        rfl
      refine one_ (i := 8) (N := some 24) #[true,true,true,true,true,true,true,true,true,false] rfl rfl (by kernel_rfl) (by decide) (fun K hK => ?_)
      refine goes_ Try.func39 (by kernel_rfl) rfl #[.agg #[.string b.f0, .bool b.f1, .int .i64 b.f2, .slice A3 0 c3, .slice A4 b.f4.length c4], .agg #[.string b.f0, .bool b.f1, .int .i64 b.f2, .slice B3 0 d3, .slice B4 b.f4.length d4]] (by rfl) rfl rfl (by (try simp only [List.map_toArray, List.map_cons, List.map_nil]); first | done | rfl) ?_
      with_reducible refine (HAL.out _ (by rw [← hWd]; exact below_drew1 (Below.refl _ _))).mono ?_
      rintro e w3 ⟨rfl, hb3⟩
      have HY3 := Lib.hid (show Below wr.heap.size wr w3 from by rw [← hWd] at hb3; exact (below_drew1 (Below.refl _ _)).trans hb3)
      refine ⟨_, rfl, ?_⟩
      refine hK.out _ _ ⟨(hb3.cell (World.block_lt_of_cell? _ _ (hHeld.1))).trans (hHeld.1), (hb3.cell (World.block_lt_of_cell? _ _ (hHeld.2.1))).trans (hHeld.2.1), (hb3.cell (World.block_lt_of_cell? _ _ (hHeld.2.2.1))).trans (hHeld.2.2.1), (hb3.cell (World.block_lt_of_cell? _ _ (hHeld.2.2.2.1))).trans (hHeld.2.2.2.1), (hb3.cell (World.block_lt_of_cell? _ _ (hHeld.2.2.2.2.1))).trans (hHeld.2.2.2.2.1), (hb3.cell (World.block_lt_of_cell? _ _ (hHeld.2.2.2.2.2.1))).trans (hHeld.2.2.2.2.2.1), (hb3.cell (World.block_lt_of_cell? _ _ (hHeld.2.2.2.2.2.2.1))).trans (hHeld.2.2.2.2.2.2.1), (hb3.cell (World.block_lt_of_cell? _ _ (hHeld.2.2.2.2.2.2.2.1))).trans (hHeld.2.2.2.2.2.2.2.1), (hb3.cell (World.block_lt_of_cell? _ _ (hHeld.2.2.2.2.2.2.2.2.1))).trans (hHeld.2.2.2.2.2.2.2.2.1), (hb3.cell (World.block_lt_of_cell? _ _ (hHeld.2.2.2.2.2.2.2.2.2))).trans (hHeld.2.2.2.2.2.2.2.2.2)⟩ (fun hHeld => ?_)
      clear hK K
      refine norm_ (a' := ?_) ?_ ?_
      rotate_left
      · show Act.put _ (some 24) _ = _
        simp only [Act.put, List.setIfInBounds_toArray, List.set_cons_zero, List.set_cons_succ, i64_w, i32_w]
        rfl
      refine pure_ (i := 9) (N := some 25) (v := ?_) (a' := ?_) #[true,true,true,true,true,true,true,true,true,true] rfl rfl (by kernel_rfl) (fun _ _ _ h => h) (Or.inl ⟨by rfl, ?_⟩) ?_ ?_
      rotate_left
      · intro w'
        go_simp
        with_reducible rfl
      rotate_left
      · simp only [Act.put, List.setIfInBounds_toArray, List.set_cons_zero, List.set_cons_succ, i64_w, i32_w]
        rfl
      refine done_ (by kernel_rfl) ?_
      go_wp2
      exact ⟨⟨i + 1, by simp, by omega, Lib.hid (HX.out.trans (bwk HX.out.size HY3.out))⟩, by simp [intOf]; omega⟩
    · obtain rfl : i = bs.length := by omega
      have hq_ : ¬ (bs.length : Int) < (bs.length : Int) := by omega
      go_wp2
      go_ret
      exact ⟨rfl, HX.out⟩
end Go.Proofs.Ytoimkmoalmmooaa.Pure
namespace Go.Proofs.Ytoimkmoalmmooaa.Pure
open Go.RowKit Go.Proofs.YtoimkmoalmmooaaW.PrintWords Go.Proofs.YtoimkmoalmmooaaW.PrintLast Go.Proofs.YtoimkmoalmmooaaW.PrintMore Go.Proofs.Ytoimkmoalmmooaa.Base Go.Proofs.Ytoimkmoalmmooaa.Gv Go.Proofs.Ytoimkmoalmmooaa.Given Go.Proofs.Ytoimkmoalmmooaa.QA Go.Proofs.Ytoimkmoalmmooaa.Own
section
variable {w wr w1 : World} {m n : Nat} {hv wv v1 : Value} {H : List Pair} {want : List ByteArray}
end
theorem two_read {w : World} {base : Nat} {ok : Nat → Prop} {v : Value} {a b : Ans} (h : Kd.S k32 32 w base ok v [a, b]) :
    ∃ g o c, v = .slice (some ⟨g, o, none⟩) 2 c ∧ w.cell? ⟨g, o, none⟩ = some (.string a.f0) ∧ w.cell? ⟨g, o + 1, none⟩ = some (.bool a.f1) ∧ w.cell? ⟨g, o + 5, none⟩ = some (.string b.f0) ∧ w.cell? ⟨g, o + 5 + 1, none⟩ = some (.bool b.f1) := by
  obtain ⟨A, c, rfl, hc, hC⟩ := Kd.S_reads h
  obtain ⟨g, _, _, _, _, e, y0, y1, _⟩ := at_T32 hC 0 (by omega) (by simp)
  obtain ⟨g2, _, _, _, _, e2, z0, z1, _⟩ := at_T32 hC 1 (by omega) (by simp)
  subst e
  cases e2
  obtain ⟨g0, rfl⟩ := Kd.R_head (Kd.S_R h)
  exact ⟨g0, 0, c, rfl, y0, y1, z0, z1⟩
end Go.Proofs.Ytoimkmoalmmooaa.Pure
