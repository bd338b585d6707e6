/- Texts of this claim, one behind the other (merged by wip/prune.py of this repo, without what the proof does not use): TPan3, TPan4, TPan5, TScriptF, TScript, LName, LRun, LUpd, LTrail, LNameKey, LPlayed, LPlayedB, PLit, PlayedM. -/
import Derived.Test.YtoimkmoalmmooaaZP2
import Derived.Test.YtoimkmoalmmooaaZP3
import Derived.Test.YtoimkmoalmmooaaZP4
import Derived.Test.YtoimkmoalmmooaaZP5
import Derived.Test.YtoimkmoalmmooaaZP8
import Derived.Test.YtoimkmoalmmooaaZP9
import Derived.Test.YtoimkmoalmmooaaZP16
import Derived.Test.YtoimkmoalmmooaaZP17
import Derived.Test.YtoimkmoalmmooaaZP18
set_option linter.unusedVariables false
set_option linter.unusedSimpArgs false
namespace Go.Proofs.Ytoimkmoalmmooaa.Own
open Go.RowKit Go.Proofs.YtoimkmoalmmooaaW.PrintWords Go.Proofs.YtoimkmoalmmooaaW.PrintLast Go.Proofs.YtoimkmoalmmooaaW.PrintMore Go.Proofs.Ytoimkmoalmmooaa.Base Go.Proofs.Ytoimkmoalmmooaa.Gv Go.Proofs.Ytoimkmoalmmooaa.QA Go.Proofs.Ytoimkmoalmmooaa.Given
def SetP (l : Nat → Nat) (w : World) (q zl : Nat) (e : Ending) (w' : World) : Prop := PanE e ∧ ∃ l1, Stp (fun lab => Tz q lab ∨ lab = zl) l l1 w w'
theorem dropW_nil {α : Type} (p : α → Bool) : ∀ l : List α, l.dropWhile p = [] → ∀ x ∈ l, p x = true
  | [], _ => by simp
  | y :: t, h => by
    rw [List.dropWhile_cons] at h
    by_cases hy : p y = true
    · rw [if_pos hy] at h
      intro x hx
      rcases List.mem_cons.1 hx with rfl | hx
      · exact hy
      · exact dropW_nil p t h x hx
    · rw [if_neg hy] at h; cases h
theorem trim_blank : ∀ (L : List Int), trimR (trimL L) = [] → ∀ x ∈ L, x = 32
  | [], _ => by simp
  | x :: t, h => by
    by_cases hx : x = 32
    · subst hx
      rw [trimL_sp] at h
      intro y hy
      rcases List.mem_cons.1 hy with rfl | hy
      · rfl
      · exact trim_blank t h y hy
    · rw [trimL_hd _ _ hx] at h
      unfold trimR at h
      rw [List.reverse_eq_nil_iff] at h
      have := dropW_nil _ _ h x (by simp)
      exact absurd (by simpa using this) hx
set_option maxHeartbeats 4000000 in
set_option maxRecDepth 100000 in
theorem tSetT_panics (l : Nat → Nat) (w : World) (q p n : Nat) (V kv vv : Value) (S : List Slot) (kx vx : List Int) (dn : Bool) (h : TrC l w q p V n S kv kx vv vx dn) (zl g c : Nat) (hz : ¬ Tz q zl) (hg : l g = zl) (xs : List Int) (hx : ∀ x ∈ xs, 0 ≤ x ∧ x ≤ 255) (hbr : BrO w 5 g 0 xs) (hc : xs.length ≤ c) (hl : xs.length ≤ 1099511627775) (f0 : Nat) (hf0 : xs.length ≤ f0) (hgo : setGo dn f0 xs [] false = none) :
  Calls Try.prog 45 #[.pointer (some ⟨p, 0, none⟩), .slice (some ⟨g, 0, none⟩) xs.length c] w fun e w' => SetP l w q zl e w' := by
 have HRS := Lib.hid (tResetSkip_calls l w q p n V kv vv S kx vx dn h)
 obtain ⟨XN, hXN⟩ : ∃ n, xs.length = n := ⟨_, rfl⟩
 rw [hXN] at hc hl ⊢
 have HXN := Lib.hid hXN
 have HZ := Lib.hid hz
 have HG := Lib.hid hg
 have HX := Lib.hid hx
 have HBR := Lib.hid hbr
 have HC := Lib.hid hc
 have HXL := Lib.hid hl
 have HGO := Lib.hid hgo
 have HF0 := Lib.hid hf0
 clear hf0
 clear h hz hg hx hbr hc hl hgo hXN
 go_enter Try.func45, Try.ntmps45
 go_wp2_with (
  go_at_call 63
  refine HRS.out.mono ?_
  rintro e w1 ⟨V1, rfl, h1, h2⟩
  have H1 := Lib.hid h1
  have H2 := Lib.hid h2
  clear h1 h2)
 go_loopw [1, 4, 5, 6] (fun tv ev iv _ wr => ∃ (o N C d n1 f : Nat) (i : Int) (ys : List Int) (acc : List KVx) (b : Bool), tv = .slice (some ⟨g, o, none⟩) N C ∧ iv = .int .i64 i ∧ Hid (i + 1 = (d : Int)) ∧ Hid (N ≤ C) ∧ Hid (ys.length = N - d) ∧ Hid (BrO wr 5 g (o + d) ys) ∧ Hid (setGo dn f ys acc b = none) ∧ Hid (ys.length ≤ f) ∧ Hid (ErrV b ev) ∧ Hid (MidT l w q p kv vv kx vx dn zl g n1 acc wr) ∧ Hid (n1 + ys.length ≤ XN) ∧ Hid (∀ x ∈ ys, 0 ≤ x ∧ x ≤ 255) ∧ Hid (N ≤ XN ∧ d ≤ N + 1)) (fun tv _ iv _ _ => lenV tv - (intOf iv + 1).toNat)
 case atStart =>
  refine ⟨0, XN, c, 0, 0, f0, -1, xs, [], false, rfl, rfl, Lib.hid (by omega), HC, Lib.hid (by have := HXN.out; omega), Lib.hid (HBR.out.same (H2.out.block g HBR.out.lt (by rw [HG.out]; exact HZ.out))), HGO, HF0, Lib.hid (.inr ⟨rfl, rfl⟩), Lib.hid ⟨l, V1, S, H1.out, rfl, H2.out.mono (fun _ k => .inl k), HG.out⟩, Lib.hid (by have := HXN.out; omega), HX, Lib.hid ⟨Nat.le_refl _, by omega⟩⟩
 case round =>
  obtain ⟨o, N, C, d, n1, f, i, ys, acc, b, rfl, rfl, HI, HNC, HYL, HB, HGO, HFL, HEV, HM, HN1, HYR, HNX⟩ := hrel
  have hi := HI.out
  have hnb := HNX.out
  have hxb := HXL.out
  have hi1 : -1 ≤ i := by omega
  have hi2 : i ≤ 1099511627776 := by omega
  cases hys : ys with
  | nil =>
   subst hys
   have := HGO.out
   have e1 : setGo dn f [] acc b = some (acc, b) := by cases f <;> rfl
   rw [e1] at this
   cases this
  | cons y ys' =>
   rw [hys] at HYL HB HGO HN1 HYR HFL
   clear hys
   obtain ⟨YS, hYS⟩ : ∃ Y, y :: ys' = Y := ⟨_, rfl⟩
   have hne : YS ≠ [] := by rw [← hYS]; simp
   cases f with
   | zero => have := HFL.out; simp at this
   | succ f =>
   have hgo := HGO.out
   rw [setGo] at hgo
   rw [hYS] at HYL HB HN1 HYR HFL hgo
   clear HGO hYS
   by_cases hke : keyT dn YS = []
   ·have hlen := HYL.out
    have hpos : 0 < YS.length := by cases YS with
     | nil => exact absurd rfl hne
     | cons _ _ => simp
    have hdN : d < N := by omega
    have hcut := cut8a g o N C d hdN HNC.out
    have p0 : (d : Int) < (N : Int) := by omega
    obtain ⟨CM, hCM⟩ : ∃ m, N - d = m := ⟨_, rfl⟩
    obtain ⟨C1, hC1⟩ : ∃ m, C - d = m := ⟨_, rfl⟩
    obtain ⟨O, hO⟩ : ∃ m, o + d = m := ⟨_, rfl⟩
    rw [hCM] at hlen
    rw [hCM, hC1, hO] at hcut
    rw [hO] at HB
    have HMC := Lib.hid (show CM ≤ C1 by have := HNC.out; omega)
    have HCMX := Lib.hid (show CM ≤ XN ∧ CM = N - d by omega)
    obtain ⟨m, hm⟩ : ∃ m, cutI YS = m := ⟨_, rfl⟩
    have hmle : m ≤ CM := by rw [← hm, ← hlen]; exact cutI_le YS
    have hix := bytes_IndexByte_calls wr (some ⟨g, O, none⟩) C1 YS 44 HYR.out (by decide) (by decide) (HB.out.reads (by omega))
    rw [hlen] at hix
    have hir := idx_range YS 44
    rw [hlen] at hir
    obtain ⟨J, hJ⟩ : ∃ j, idx YS 44 = j := ⟨_, rfl⟩
    rw [hJ] at hix hir
    have hJm : (J = -1 ∧ m = CM) ∨ (0 ≤ J ∧ J = (m : Int)) := by
     unfold cutI at hm
     rw [hJ] at hm
     by_cases hj : J = -1
     ·rw [if_pos hj] at hm; exact .inl ⟨hj, by omega⟩
     ·rw [if_neg hj] at hm; exact .inr ⟨by omega, by omega⟩
    have HIX := Lib.hid hix
    -- the key, cut and trimmed
    obtain ⟨L, hL⟩ : ∃ L, YS.take m = L := ⟨_, rfl⟩
    have HLm := Lib.hid (show L.length = m by rw [← hL, List.length_take]; omega)
    have HBL := Lib.hid (show BrO wr 5 g O L by rw [← hL]; exact HB.out.take m)
    have HRL := Lib.hid (show ∀ x ∈ L, 0 ≤ x ∧ x ≤ 255 from fun x k => HYR.out x (by rw [← hL] at k; exact List.mem_of_mem_take k))
    have HN2 := Lib.hid (show n1 + CM ≤ XN by have := HN1.out; omega)
    have hcuth := cut8h (some ⟨g, O, none⟩) CM C1 m hmle HMC.out
    have hmb : m ≤ 1099511627775 := by omega
    have hcb : CM ≤ 1099511627775 := by omega
    have hlb : ∀ x ∈ L, x = 32 := by
     refine trim_blank L ?_
     have h1 : nkd dn (trimR (trimL (YS.take (cutI YS)))) = [] := hke
     rw [hm, hL] at h1
     exact List.eq_nil_of_length_eq_zero (by have := congrArg List.length h1; rw [nkd_length] at this; exact this)
    have HLB := Lib.hid hlb
    obtain ⟨l1, V1, S1, hT, hacc, hst, hgl⟩ := HM.out
    obtain ⟨x4, _⟩ := hT.c4
    have HST := Lib.hid hst
    have HGL := Lib.hid hgl
    clear hT hacc hst hgl hlb hgo hke hlen hpos hdN hCM hC1 hO hm hix hir hJ hL hne hnb hxb
    rcases hJm with ⟨rfl, hmc⟩ | ⟨hj0, rfl⟩
    ·subst hmc
     have j0 : decide ((-1 : Int) < 0) = true := rfl
     go_upto_region 9 with (
      go_at_call 64
      refine HIX.out.mono ?_
      rintro e w2 ⟨rfl, hw2⟩
      obtain rfl : wr = w2 := hw2.symm)
     go_loopw [6] (fun kv wi => ∃ (o1 M1 C2 : Nat) (L1 : List Int), kv = .slice (some ⟨g, o1, none⟩) M1 C2 ∧ wi = wr ∧ M1 ≤ m ∧ Hid (M1 = L1.length) ∧ Hid (M1 ≤ C2) ∧ Hid (BrO wr 5 g o1 L1) ∧ Hid (∀ x ∈ L1, x = 32)) (fun kv _ => lenV kv)
     case atStart => exact ⟨O, m, C1, L, rfl, rfl, Nat.le_refl _, Lib.hid HLm.out.symm, Lib.hid (by have := HMC.out; omega), HBL, HLB⟩
     case round =>
      obtain ⟨o1, M1, C2, L1, rfl, hwi, hle1, HM1, HC2, HB1, HR1⟩ := hrel
      subst hwi
      cases hl1 : L1 with
      | nil =>
       have hM0 : M1 = 0 := by have := HM1.out; rw [hl1] at this; simpa using this
       subst hM0
       rw [hl1] at HB1
       clear hl1
       go_upto_region 11 with fail
       go_loopw [6] (fun kv wj => kv = .slice (some ⟨g, o1, none⟩) 0 C2 ∧ wj = wr) (fun kv _ => lenV kv)
       case atStart => exact ⟨rfl, rfl⟩
       case round =>
        obtain ⟨rfl, hwj⟩ := hrel
        subst hwj
        go_upto_region 14 with (
         go_at_call 60
         refine (nhkd_calls wr g o1 0 C2 [] dn rfl (fun x k => by simp at k) (by omega) HB1.out).mono ?_
         rintro e w3 ⟨rfl, hb3, ho3⟩
         have HO3 := Lib.hid ho3
         clear hb3 ho3)
        go_wp2_with (
         go_at_call 59
         refine (tAddB_panics _ _ _ _ _ _ _ _).mono ?_
         rintro e w4 ⟨⟨u, v, rfl⟩, rfl⟩)
        have hfin : Stp (fun lab => Tz q lab ∨ lab = zl) l l1 w w3.drew := (HST.out.trans ((HO3.out.stp l1).mono (fun _ e => .inr (e.trans HGL.out)))).trans (drew_stp _ l1 w3 1)
        first | exact ⟨rfl, ⟨u, v, rfl⟩, _, hfin⟩ | exact ⟨rfl, ⟨⟨u, v, rfl⟩, _, hfin⟩⟩
      | cons b1 L2 =>
       rw [hl1] at HM1 HB1 HR1
       clear hl1
       have y0 : wr.cell? ⟨g, o1, none⟩ = some (.int .u8 b1) := HB1.out.cell 0 (by simp)
       obtain rfl : b1 = 32 := HR1.out b1 (by simp)
       have hM1 : 0 < M1 := by have := HM1.out; simp at this; omega
       have p1 : (0 : Int) < (M1 : Int) := by omega
       obtain ⟨o2, hcut1, hb2⟩ : ∃ o2, (∀ W, (Instr.slice 54 (.slice (some ⟨g, o1, none⟩) M1 C2) (some (.int .i64 1)) none none).run Try.prog W = .ok (.slice (some ⟨g, o2, none⟩) (M1 - 1) (C2 - 1)) W) ∧ BrO wr 5 g o2 L2 := by
        by_cases hc1 : C2 = 1
        ·refine ⟨o1, fun W => ?_, ?_⟩
         ·have := cut8 (some ⟨g, o1, none⟩) M1 C2 1 (by omega) W
          rw [if_pos hc1] at this
          exact this
         ·have h0 : L2.length = 0 := by have h1 := HM1.out; have h2 := HC2.out; rw [List.length_cons] at h1; omega
          rw [List.eq_nil_of_length_eq_zero h0]
          have := HB1.out.take 0
          exact this
        ·refine ⟨o1 + 1, fun W => ?_, HB1.out.drop 1⟩
         have := cut8 (some ⟨g, o1, none⟩) M1 C2 1 (by omega) W
         rw [if_neg hc1] at this
         rw [show (some (⟨g, o1, none⟩ : Addr)).map (·.add 1) = some ⟨g, o1 + 1, none⟩ from by rw [Option.map_some, Addr.add_lit]] at this
         exact this
       have HBn := Lib.hid hb2
       have HRn := Lib.hid (show ∀ x ∈ L2, x = 32 from fun x k => HR1.out x (List.mem_cons_of_mem _ k))
       clear hb2
       go_wp2
       go_roundw
       case rel => exact ⟨o2, M1 - 1, C2 - 1, L2, rfl, by first | rfl | trivial, by omega, Lib.hid (by have := HM1.out; rw [List.length_cons] at this; omega), Lib.hid (by have := HC2.out; omega), HBn, HRn⟩
       case measure => simp [lenV]; omega
    ·have j0 : decide ((m : Int) < 0) = false := decide_eq_false (by omega)
     clear hj0
     go_upto_region 9 with (
      go_at_call 64
      refine HIX.out.mono ?_
      rintro e w2 ⟨rfl, hw2⟩
      obtain rfl : wr = w2 := hw2.symm)
     go_loopw [6] (fun kv wi => ∃ (o1 M1 C2 : Nat) (L1 : List Int), kv = .slice (some ⟨g, o1, none⟩) M1 C2 ∧ wi = wr ∧ M1 ≤ m ∧ Hid (M1 = L1.length) ∧ Hid (M1 ≤ C2) ∧ Hid (BrO wr 5 g o1 L1) ∧ Hid (∀ x ∈ L1, x = 32)) (fun kv _ => lenV kv)
     case atStart => exact ⟨O, m, C1, L, rfl, rfl, Nat.le_refl _, Lib.hid HLm.out.symm, Lib.hid (by have := HMC.out; omega), HBL, HLB⟩
     case round =>
      obtain ⟨o1, M1, C2, L1, rfl, hwi, hle1, HM1, HC2, HB1, HR1⟩ := hrel
      subst hwi
      cases hl1 : L1 with
      | nil =>
       have hM0 : M1 = 0 := by have := HM1.out; rw [hl1] at this; simpa using this
       subst hM0
       rw [hl1] at HB1
       clear hl1
       go_upto_region 11 with fail
       go_loopw [6] (fun kv wj => kv = .slice (some ⟨g, o1, none⟩) 0 C2 ∧ wj = wr) (fun kv _ => lenV kv)
       case atStart => exact ⟨rfl, rfl⟩
       case round =>
        obtain ⟨rfl, hwj⟩ := hrel
        subst hwj
        go_upto_region 14 with (
         go_at_call 60
         refine (nhkd_calls wr g o1 0 C2 [] dn rfl (fun x k => by simp at k) (by omega) HB1.out).mono ?_
         rintro e w3 ⟨rfl, hb3, ho3⟩
         have HO3 := Lib.hid ho3
         clear hb3 ho3)
        go_wp2_with (
         go_at_call 59
         refine (tAddB_panics _ _ _ _ _ _ _ _).mono ?_
         rintro e w4 ⟨⟨u, v, rfl⟩, rfl⟩)
        have hfin : Stp (fun lab => Tz q lab ∨ lab = zl) l l1 w w3.drew := (HST.out.trans ((HO3.out.stp l1).mono (fun _ e => .inr (e.trans HGL.out)))).trans (drew_stp _ l1 w3 1)
        first | exact ⟨rfl, ⟨u, v, rfl⟩, _, hfin⟩ | exact ⟨rfl, ⟨⟨u, v, rfl⟩, _, hfin⟩⟩
      | cons b1 L2 =>
       rw [hl1] at HM1 HB1 HR1
       clear hl1
       have y0 : wr.cell? ⟨g, o1, none⟩ = some (.int .u8 b1) := HB1.out.cell 0 (by simp)
       obtain rfl : b1 = 32 := HR1.out b1 (by simp)
       have hM1 : 0 < M1 := by have := HM1.out; simp at this; omega
       have p1 : (0 : Int) < (M1 : Int) := by omega
       obtain ⟨o2, hcut1, hb2⟩ : ∃ o2, (∀ W, (Instr.slice 54 (.slice (some ⟨g, o1, none⟩) M1 C2) (some (.int .i64 1)) none none).run Try.prog W = .ok (.slice (some ⟨g, o2, none⟩) (M1 - 1) (C2 - 1)) W) ∧ BrO wr 5 g o2 L2 := by
        by_cases hc1 : C2 = 1
        ·refine ⟨o1, fun W => ?_, ?_⟩
         ·have := cut8 (some ⟨g, o1, none⟩) M1 C2 1 (by omega) W
          rw [if_pos hc1] at this
          exact this
         ·have h0 : L2.length = 0 := by have h1 := HM1.out; have h2 := HC2.out; rw [List.length_cons] at h1; omega
          rw [List.eq_nil_of_length_eq_zero h0]
          have := HB1.out.take 0
          exact this
        ·refine ⟨o1 + 1, fun W => ?_, HB1.out.drop 1⟩
         have := cut8 (some ⟨g, o1, none⟩) M1 C2 1 (by omega) W
         rw [if_neg hc1] at this
         rw [show (some (⟨g, o1, none⟩ : Addr)).map (·.add 1) = some ⟨g, o1 + 1, none⟩ from by rw [Option.map_some, Addr.add_lit]] at this
         exact this
       have HBn := Lib.hid hb2
       have HRn := Lib.hid (show ∀ x ∈ L2, x = 32 from fun x k => HR1.out x (List.mem_cons_of_mem _ k))
       clear hb2
       go_wp2
       go_roundw
       case rel => exact ⟨o2, M1 - 1, C2 - 1, L2, rfl, by first | rfl | trivial, by omega, Lib.hid (by have := HM1.out; rw [List.length_cons] at this; omega), Lib.hid (by have := HC2.out; omega), HBn, HRn⟩
       case measure => simp [lenV]; omega
   ·have hkn : ¬ keyT dn YS = [] := hke
    clear hke
    rw [if_neg hkn] at hgo
    have hlen := HYL.out
    have hpos : 0 < YS.length := by cases YS with
     | nil => exact absurd rfl hne
     | cons _ _ => simp
    have hdN : d < N := by omega
    have hcut := cut8a g o N C d hdN HNC.out
    have p0 : (d : Int) < (N : Int) := by omega
    obtain ⟨CM, hCM⟩ : ∃ m, N - d = m := ⟨_, rfl⟩
    obtain ⟨C1, hC1⟩ : ∃ m, C - d = m := ⟨_, rfl⟩
    obtain ⟨O, hO⟩ : ∃ m, o + d = m := ⟨_, rfl⟩
    rw [hCM] at hlen
    rw [hCM, hC1, hO] at hcut
    rw [hO] at HB
    have HMC := Lib.hid (show CM ≤ C1 by have := HNC.out; omega)
    have HCMX := Lib.hid (show CM ≤ XN ∧ CM = N - d by omega)
    obtain ⟨m, hm⟩ : ∃ m, cutI YS = m := ⟨_, rfl⟩
    have hmle : m ≤ CM := by rw [← hm, ← hlen]; exact cutI_le YS
    have hix := bytes_IndexByte_calls wr (some ⟨g, O, none⟩) C1 YS 44 HYR.out (by decide) (by decide) (HB.out.reads (by omega))
    rw [hlen] at hix
    have hir := idx_range YS 44
    rw [hlen] at hir
    obtain ⟨J, hJ⟩ : ∃ j, idx YS 44 = j := ⟨_, rfl⟩
    rw [hJ] at hix hir
    have hJm : (J = -1 ∧ m = CM) ∨ (0 ≤ J ∧ J = (m : Int)) := by
     unfold cutI at hm
     rw [hJ] at hm
     by_cases hj : J = -1
     ·rw [if_pos hj] at hm; exact .inl ⟨hj, by omega⟩
     ·rw [if_neg hj] at hm; exact .inr ⟨by omega, by omega⟩
    have HIX := Lib.hid hix
    -- the key, cut and trimmed
    obtain ⟨L, hL⟩ : ∃ L, YS.take m = L := ⟨_, rfl⟩
    have HLm := Lib.hid (show L.length = m by rw [← hL, List.length_take]; omega)
    obtain ⟨K0, hK0⟩ : ∃ K, trimR (trimL L) = K := ⟨_, rfl⟩
    have hkey : keyT dn YS = nkd dn K0 := by unfold keyT; rw [hm, hL, hK0]
    have HKEY := Lib.hid hkey
    have HKN := Lib.hid (show K0 ≠ [] by intro k; rw [k] at hkey; exact hkn (hkey.trans (List.eq_nil_of_length_eq_zero (by rw [nkd_length]; rfl))))
    have HBL := Lib.hid (show BrO wr 5 g O L by rw [← hL]; exact HB.out.take m)
    have HYS' := Lib.hid (show BrO wr 5 g (O + (m + 1)) (YS.drop (m + 1)) from HB.out.drop (m + 1))
    have HRL := Lib.hid (show ∀ x ∈ L, 0 ≤ x ∧ x ≤ 255 from fun x k => HYR.out x (by rw [← hL] at k; exact List.mem_of_mem_take k))
    have HRD := Lib.hid (show ∀ x ∈ YS.drop (m + 1), 0 ≤ x ∧ x ≤ 255 from fun x k => HYR.out x (List.mem_of_mem_drop k))
    have HDL := Lib.hid (show (YS.drop (m + 1)).length = CM - (m + 1) by rw [List.length_drop, hlen])
    rw [hm, hkey] at hgo
    obtain ⟨YD, hYD⟩ : ∃ Y, YS.drop (m + 1) = Y := ⟨_, rfl⟩
    rw [hYD] at HYS' HRD HDL hgo
    have HGO2 := Lib.hid hgo
    have HFL2 := Lib.hid (show YD.length ≤ f by have := HFL.out; have := HDL.out; have := HCMX.out; omega)
    have HK0 := Lib.hid hK0
    have HN2 := Lib.hid (show n1 + CM ≤ XN by have := HN1.out; omega)
    have hcuth := cut8h (some ⟨g, O, none⟩) CM C1 m hmle HMC.out
    have hmb : m ≤ 1099511627775 := by omega
    have hcb : CM ≤ 1099511627775 := by omega
    have hm0 : 0 < m := by
     rcases Nat.eq_zero_or_pos m with k | k
     ·exfalso
      have := HLm.out
      rw [k] at this
      rw [List.eq_nil_of_length_eq_zero this] at hK0
      exact HKN.out hK0.symm
     ·exact k
    clear hgo hkn hlen hpos hdN hCM hC1 hO hm hix hir hJ hL hK0 hkey hne hYD hnb hxb
    rcases hJm with ⟨rfl, hmc⟩ | ⟨hj0, rfl⟩
    ·subst hmc
     have j0 : decide ((-1 : Int) < 0) = true := rfl
     go_upto_region 9 with (
      go_at_call 64
      refine HIX.out.mono ?_
      rintro e w2 ⟨rfl, hw2⟩
      obtain rfl : wr = w2 := hw2.symm)
     go_loopw [6] (fun kv wi => ∃ (o1 M1 C2 : Nat) (L1 : List Int), kv = .slice (some ⟨g, o1, none⟩) M1 C2 ∧ wi = wr ∧ 0 < M1 ∧ M1 ≤ m ∧ Hid (M1 = L1.length) ∧ Hid (M1 ≤ C2) ∧ Hid (BrO wr 5 g o1 L1) ∧ Hid (trimR (trimL L1) = K0) ∧ Hid (∀ x ∈ L1, 0 ≤ x ∧ x ≤ 255) ∧ Hid (o1 + M1 = O + m)) (fun kv _ => lenV kv)
     case atStart => exact ⟨O, m, C1, L, rfl, rfl, hm0, Nat.le_refl _, Lib.hid HLm.out.symm, Lib.hid (by have := HMC.out; omega), HBL, HK0, HRL, Lib.hid rfl⟩
     case round =>
      obtain ⟨o1, M1, C2, L1, rfl, hwi, hM1, hle1, HM1, HC2, HB1, HT1, HR1, HE1⟩ := hrel
      subst hwi
      cases hl1 : L1 with
      | nil => exfalso; have := HM1.out; rw [hl1] at this; simp at this; omega
      | cons b1 L2 =>
       rw [hl1] at HM1 HB1 HT1 HR1
       clear hl1
       have y0 : wr.cell? ⟨g, o1, none⟩ = some (.int .u8 b1) := HB1.out.cell 0 (by simp)
       have p1 : (0 : Int) < (M1 : Int) := by omega
       by_cases hb1 : b1 = 32
       ·have hK2 : trimR (trimL L2) = K0 := by have := HT1.out; rw [hb1, trimL_sp] at this; exact this
        have hnz : 1 < M1 := by
         have h1 := HM1.out
         rw [List.length_cons] at h1
         rcases Nat.eq_zero_or_pos L2.length with h0 | h0
         ·exfalso
          rw [List.eq_nil_of_length_eq_zero h0] at hK2
          exact HKN.out hK2.symm
         ·omega
        have hcut1 : ∀ W, (Instr.slice 54 (.slice (some ⟨g, o1, none⟩) M1 C2) (some (.int .i64 1)) none none).run Try.prog W = .ok (.slice (some ⟨g, o1 + 1, none⟩) (M1 - 1) (C2 - 1)) W := cut8a g o1 M1 C2 1 hnz HC2.out
        have HBn := Lib.hid (show BrO wr 5 g (o1 + 1) L2 from HB1.out.drop 1)
        have HRn := Lib.hid (show ∀ x ∈ L2, 0 ≤ x ∧ x ≤ 255 from fun x k => HR1.out x (List.mem_cons_of_mem _ k))
        have HKn := Lib.hid hK2
        clear hK2
        subst hb1
        go_wp2
        go_roundw
        case rel => exact ⟨o1 + 1, M1 - 1, C2 - 1, L2, rfl, by first | rfl | trivial, by omega, by omega, Lib.hid (by have := HM1.out; rw [List.length_cons] at this; omega), Lib.hid (by have := HC2.out; omega), HBn, HKn, HRn, Lib.hid (by have := HE1.out; omega)⟩
        case measure => simp [lenV]; omega
       ·have hbe : (b1 == 32) = false := beq_eq_false_iff_ne.2 hb1
        have HT2 := Lib.hid (show trimR (b1 :: L2) = K0 by have := HT1.out; rw [trimL_hd _ _ hb1] at this; exact this)
        obtain ⟨LL, hLL⟩ : ∃ X, b1 :: L2 = X := ⟨_, rfl⟩
        rw [hLL] at HM1 HB1 HT1 HT2 HR1
        clear hLL
        go_upto_region 11 with fail
        go_loopw [6] (fun kv wj => ∃ (M2 : Nat) (L2 : List Int), kv = .slice (some ⟨g, o1, none⟩) M2 C2 ∧ wj = wr ∧ 0 < M2 ∧ M2 ≤ M1 ∧ Hid (M2 = L2.length) ∧ Hid (BrO wr 5 g o1 L2) ∧ Hid (trimR L2 = K0) ∧ Hid (∀ x ∈ L2, 0 ≤ x ∧ x ≤ 255)) (fun kv _ => lenV kv)
        case atStart => exact ⟨M1, LL, rfl, rfl, hM1, Nat.le_refl _, HM1, HB1, HT2, HR1⟩
        case round =>
         clear y0 p1 hbe
         obtain ⟨M2, L2, rfl, hwj, hM2, hle2, HM2, HB2, HK2, HR2⟩ := hrel
         subst hwj
         obtain ⟨k, hk⟩ : ∃ k, M2 = k + 1 := ⟨M2 - 1, by omega⟩
         have hL2n : L2 ≠ [] := by intro k; have := HM2.out; rw [k] at this; simp at this; omega
         obtain ⟨L3, b, hL3⟩ : ∃ L3 b, L2 = L3 ++ [b] := ⟨L2.dropLast, L2.getLast hL2n, (List.dropLast_concat_getLast hL2n).symm⟩
         have hk3 : L3.length = k := by have := HM2.out; rw [hL3, List.length_append] at this; simp at this; omega
         have y0 : wr.cell? ⟨g, o1 + k, none⟩ = some (.int .u8 b) := by
          have hkl : k < L2.length := by have := HM2.out; omega
          have hd : L2.getD k 0 = b := by rw [hL3, List.getD_eq_getElem?_getD, List.getElem?_append_right (by omega), hk3, Nat.sub_self]; rfl
          rw [HB2.out.cell k hkl, hd]
         have p1 : (0 : Int) < (M2 : Int) := by omega
         have p2 : (M2 : Int) - 1 = (k : Int) := by omega
         have p3 : k < M2 := by omega
         have HKK := Lib.hid hk
         have HK3 := Lib.hid hk3
         have HL3 := Lib.hid hL3
         clear hk3 hL3 hL2n hk
         by_cases hb : b = 32
         ·have hcutk := cut8h (some ⟨g, o1, none⟩) M2 C2 k (by omega) (by have := HC2.out; omega)
          have hnz : 0 < k := by
           rcases Nat.eq_zero_or_pos k with h0 | h0
           ·exfalso
            have := HK2.out
            rw [HL3.out, show L3 = [] from List.eq_nil_of_length_eq_zero (by rw [HK3.out]; exact h0), hb, trimR_sp] at this
            exact HKN.out this.symm
           ·exact h0
          have HB3 := Lib.hid (show BrO wr 5 g o1 L3 by have := HB2.out.take L3.length; rw [HL3.out, List.take_left'] at this; exact this; rfl)
          have HK4 := Lib.hid (show trimR L3 = K0 by have := HK2.out; rw [HL3.out, hb, trimR_sp] at this; exact this)
          have HR3 := Lib.hid (show ∀ x ∈ L3, 0 ≤ x ∧ x ≤ 255 from fun x hx => HR2.out x (by rw [HL3.out]; exact List.mem_append_left _ hx))
          subst hb
          go_wp2
          go_roundw
          case rel => exact ⟨k, L3, rfl, by first | rfl | trivial, hnz, by omega, Lib.hid HK3.out.symm, HB3, HK4, HR3⟩
          case measure => simp [lenV]; omega
         ·have hbe : (b == 32) = false := beq_eq_false_iff_ne.2 hb
          have HKL := Lib.hid (show K0 = L2 by have := HK2.out; rw [HL3.out, trimR_hd _ _ hb, ← HL3.out] at this; exact this.symm)
          obtain ⟨l1, V1, S1, hT, hacc, hst, hgl⟩ := HM.out
          obtain ⟨x4, _⟩ := hT.c4
          have HT := Lib.hid hT
          have HACC := Lib.hid hacc
          have HST := Lib.hid hst
          have HGL := Lib.hid hgl
          clear hT hacc hst hgl
          go_upto_region 14 with (
           go_at_call 60
           refine (nhkd_calls wr g o1 M2 C2 L2 dn HM2.out.symm HR2.out (by omega) HB2.out).mono ?_
           rintro e w3 ⟨rfl, hb3, ho3⟩
           have st3 := ho3.stp l1
           rw [HGL.out] at st3
           have hT3 := HT.out.keep st3 (fun lab e => by rw [e]; exact HZ.out)
           have hys3 := HYS'.out.apart ho3 (by have := HE1.out; omega)
           have HT3 := Lib.hid hT3
           have HB3 := Lib.hid hb3
           have HY3 := Lib.hid hys3
           have HO3 := Lib.hid st3
           clear hT3 hb3 hys3 ho3 x4 st3)
          have hnl : (nkd dn L2).length = M2 := by rw [nkd_length]; exact HM2.out.symm
          have hrd := HB3.out.reads (by rw [hnl]; omega)
          have hsrc : Src (Zn (q + 3)) l1 w3 (some ⟨g, o1, none⟩) (nkd dn L2).length (nkd dn L2) := Src.of_read hrd (fun a ha => by
           injection ha with ha; subst ha
           refine ⟨HB3.out.lt, ?_⟩
           show ¬ Zn (q + 3) (l1 g)
           rw [HGL.out]
           exact fun k => HZ.out (.inr (.inr (.inr k))))
          have hadd := addN_says (V := V1) hnl (tAddN_calls l1 w3 q p n1 V1 kv vv S1 kx vx dn HT3.out (by have := HN2.out; have := HXL.out; omega) (some ⟨g, o1, none⟩) C2 (nkd dn L2) (by rw [hnl]; exact hM2) (by rw [hnl]; omega) (by rw [hnl]; have := HC2.out; omega) hsrc)
          have hgl3 : g < w3.heap.size := HB3.out.lt
          have HADD := Lib.hid hadd
          have HGL3 := Lib.hid hgl3
          clear hnl hrd hsrc hadd hgl3
          go_wp2_with (
           go_at_call 59
           refine HADD.out.mono ?_
           rintro e w4 ⟨l2, V2, n2, S2, ev2, rfl, k1, k2, k3, k4, k5⟩
           have G2 := Lib.hid ((k3.lab g HGL3.out).trans HGL.out)
           have Y4 := Lib.hid (HY3.out.same (k3.block g HGL3.out (by rw [HGL.out]; exact HZ.out)))
           have K1 := Lib.hid k1
           have K2 := Lib.hid k2
           have K3 := Lib.hid k3
           have K4 := Lib.hid k4
           have K5 := Lib.hid k5
           clear k1 k2 k3 k4 k5)
          go_roundw
          case rel =>
           have hgo := HGO2.out
           rw [HKL.out] at hgo
           refine ⟨O, m, C1, m + 1, n2, f, (m : Int), YD, _, _, rfl, rfl, Lib.hid (by omega), HMC, HDL, Y4, Lib.hid hgo, HFL2, K4, Lib.hid ⟨l2, V2, S2, K1.out, ?_, (HST.out.trans (HO3.out.mono (fun _ e => .inr e))).trans (K3.out.mono (fun _ e => .inl e)), G2.out⟩, Lib.hid (by have := K2.out; have := HN2.out; have := HDL.out; omega), HRD, Lib.hid ⟨HCMX.out.1, by omega⟩⟩
           rw [K5.out, HACC.out]
          case measure =>
           have := HI.out
           have := HCMX.out
           simp [lenV, intOf]
           omega
    ·have j0 : decide ((m : Int) < 0) = false := decide_eq_false (by omega)
     clear hj0
     go_upto_region 9 with (
      go_at_call 64
      refine HIX.out.mono ?_
      rintro e w2 ⟨rfl, hw2⟩
      obtain rfl : wr = w2 := hw2.symm)
     go_loopw [6] (fun kv wi => ∃ (o1 M1 C2 : Nat) (L1 : List Int), kv = .slice (some ⟨g, o1, none⟩) M1 C2 ∧ wi = wr ∧ 0 < M1 ∧ M1 ≤ m ∧ Hid (M1 = L1.length) ∧ Hid (M1 ≤ C2) ∧ Hid (BrO wr 5 g o1 L1) ∧ Hid (trimR (trimL L1) = K0) ∧ Hid (∀ x ∈ L1, 0 ≤ x ∧ x ≤ 255) ∧ Hid (o1 + M1 = O + m)) (fun kv _ => lenV kv)
     case atStart => exact ⟨O, m, C1, L, rfl, rfl, hm0, Nat.le_refl _, Lib.hid HLm.out.symm, Lib.hid (by have := HMC.out; omega), HBL, HK0, HRL, Lib.hid rfl⟩
     case round =>
      obtain ⟨o1, M1, C2, L1, rfl, hwi, hM1, hle1, HM1, HC2, HB1, HT1, HR1, HE1⟩ := hrel
      subst hwi
      cases hl1 : L1 with
      | nil => exfalso; have := HM1.out; rw [hl1] at this; simp at this; omega
      | cons b1 L2 =>
       rw [hl1] at HM1 HB1 HT1 HR1
       clear hl1
       have y0 : wr.cell? ⟨g, o1, none⟩ = some (.int .u8 b1) := HB1.out.cell 0 (by simp)
       have p1 : (0 : Int) < (M1 : Int) := by omega
       by_cases hb1 : b1 = 32
       ·have hK2 : trimR (trimL L2) = K0 := by have := HT1.out; rw [hb1, trimL_sp] at this; exact this
        have hnz : 1 < M1 := by
         have h1 := HM1.out
         rw [List.length_cons] at h1
         rcases Nat.eq_zero_or_pos L2.length with h0 | h0
         ·exfalso
          rw [List.eq_nil_of_length_eq_zero h0] at hK2
          exact HKN.out hK2.symm
         ·omega
        have hcut1 : ∀ W, (Instr.slice 54 (.slice (some ⟨g, o1, none⟩) M1 C2) (some (.int .i64 1)) none none).run Try.prog W = .ok (.slice (some ⟨g, o1 + 1, none⟩) (M1 - 1) (C2 - 1)) W := cut8a g o1 M1 C2 1 hnz HC2.out
        have HBn := Lib.hid (show BrO wr 5 g (o1 + 1) L2 from HB1.out.drop 1)
        have HRn := Lib.hid (show ∀ x ∈ L2, 0 ≤ x ∧ x ≤ 255 from fun x k => HR1.out x (List.mem_cons_of_mem _ k))
        have HKn := Lib.hid hK2
        clear hK2
        subst hb1
        go_wp2
        go_roundw
        case rel => exact ⟨o1 + 1, M1 - 1, C2 - 1, L2, rfl, by first | rfl | trivial, by omega, by omega, Lib.hid (by have := HM1.out; rw [List.length_cons] at this; omega), Lib.hid (by have := HC2.out; omega), HBn, HKn, HRn, Lib.hid (by have := HE1.out; omega)⟩
        case measure => simp [lenV]; omega
       ·have hbe : (b1 == 32) = false := beq_eq_false_iff_ne.2 hb1
        have HT2 := Lib.hid (show trimR (b1 :: L2) = K0 by have := HT1.out; rw [trimL_hd _ _ hb1] at this; exact this)
        obtain ⟨LL, hLL⟩ : ∃ X, b1 :: L2 = X := ⟨_, rfl⟩
        rw [hLL] at HM1 HB1 HT1 HT2 HR1
        clear hLL
        go_upto_region 11 with fail
        go_loopw [6] (fun kv wj => ∃ (M2 : Nat) (L2 : List Int), kv = .slice (some ⟨g, o1, none⟩) M2 C2 ∧ wj = wr ∧ 0 < M2 ∧ M2 ≤ M1 ∧ Hid (M2 = L2.length) ∧ Hid (BrO wr 5 g o1 L2) ∧ Hid (trimR L2 = K0) ∧ Hid (∀ x ∈ L2, 0 ≤ x ∧ x ≤ 255)) (fun kv _ => lenV kv)
        case atStart => exact ⟨M1, LL, rfl, rfl, hM1, Nat.le_refl _, HM1, HB1, HT2, HR1⟩
        case round =>
         clear y0 p1 hbe
         obtain ⟨M2, L2, rfl, hwj, hM2, hle2, HM2, HB2, HK2, HR2⟩ := hrel
         subst hwj
         obtain ⟨k, hk⟩ : ∃ k, M2 = k + 1 := ⟨M2 - 1, by omega⟩
         have hL2n : L2 ≠ [] := by intro k; have := HM2.out; rw [k] at this; simp at this; omega
         obtain ⟨L3, b, hL3⟩ : ∃ L3 b, L2 = L3 ++ [b] := ⟨L2.dropLast, L2.getLast hL2n, (List.dropLast_concat_getLast hL2n).symm⟩
         have hk3 : L3.length = k := by have := HM2.out; rw [hL3, List.length_append] at this; simp at this; omega
         have y0 : wr.cell? ⟨g, o1 + k, none⟩ = some (.int .u8 b) := by
          have hkl : k < L2.length := by have := HM2.out; omega
          have hd : L2.getD k 0 = b := by rw [hL3, List.getD_eq_getElem?_getD, List.getElem?_append_right (by omega), hk3, Nat.sub_self]; rfl
          rw [HB2.out.cell k hkl, hd]
         have p1 : (0 : Int) < (M2 : Int) := by omega
         have p2 : (M2 : Int) - 1 = (k : Int) := by omega
         have p3 : k < M2 := by omega
         have HKK := Lib.hid hk
         have HK3 := Lib.hid hk3
         have HL3 := Lib.hid hL3
         clear hk3 hL3 hL2n hk
         by_cases hb : b = 32
         ·have hcutk := cut8h (some ⟨g, o1, none⟩) M2 C2 k (by omega) (by have := HC2.out; omega)
          have hnz : 0 < k := by
           rcases Nat.eq_zero_or_pos k with h0 | h0
           ·exfalso
            have := HK2.out
            rw [HL3.out, show L3 = [] from List.eq_nil_of_length_eq_zero (by rw [HK3.out]; exact h0), hb, trimR_sp] at this
            exact HKN.out this.symm
           ·exact h0
          have HB3 := Lib.hid (show BrO wr 5 g o1 L3 by have := HB2.out.take L3.length; rw [HL3.out, List.take_left'] at this; exact this; rfl)
          have HK4 := Lib.hid (show trimR L3 = K0 by have := HK2.out; rw [HL3.out, hb, trimR_sp] at this; exact this)
          have HR3 := Lib.hid (show ∀ x ∈ L3, 0 ≤ x ∧ x ≤ 255 from fun x hx => HR2.out x (by rw [HL3.out]; exact List.mem_append_left _ hx))
          subst hb
          go_wp2
          go_roundw
          case rel => exact ⟨k, L3, rfl, by first | rfl | trivial, hnz, by omega, Lib.hid HK3.out.symm, HB3, HK4, HR3⟩
          case measure => simp [lenV]; omega
         ·have hbe : (b == 32) = false := beq_eq_false_iff_ne.2 hb
          have HKL := Lib.hid (show K0 = L2 by have := HK2.out; rw [HL3.out, trimR_hd _ _ hb, ← HL3.out] at this; exact this.symm)
          obtain ⟨l1, V1, S1, hT, hacc, hst, hgl⟩ := HM.out
          obtain ⟨x4, _⟩ := hT.c4
          have HT := Lib.hid hT
          have HACC := Lib.hid hacc
          have HST := Lib.hid hst
          have HGL := Lib.hid hgl
          clear hT hacc hst hgl
          go_upto_region 14 with (
           go_at_call 60
           refine (nhkd_calls wr g o1 M2 C2 L2 dn HM2.out.symm HR2.out (by omega) HB2.out).mono ?_
           rintro e w3 ⟨rfl, hb3, ho3⟩
           have st3 := ho3.stp l1
           rw [HGL.out] at st3
           have hT3 := HT.out.keep st3 (fun lab e => by rw [e]; exact HZ.out)
           have hys3 := HYS'.out.apart ho3 (by have := HE1.out; omega)
           have HT3 := Lib.hid hT3
           have HB3 := Lib.hid hb3
           have HY3 := Lib.hid hys3
           have HO3 := Lib.hid st3
           clear hT3 hb3 hys3 ho3 x4 st3)
          have hnl : (nkd dn L2).length = M2 := by rw [nkd_length]; exact HM2.out.symm
          have hrd := HB3.out.reads (by rw [hnl]; omega)
          have hsrc : Src (Zn (q + 3)) l1 w3 (some ⟨g, o1, none⟩) (nkd dn L2).length (nkd dn L2) := Src.of_read hrd (fun a ha => by
           injection ha with ha; subst ha
           refine ⟨HB3.out.lt, ?_⟩
           show ¬ Zn (q + 3) (l1 g)
           rw [HGL.out]
           exact fun k => HZ.out (.inr (.inr (.inr k))))
          have hadd := addN_says (V := V1) hnl (tAddN_calls l1 w3 q p n1 V1 kv vv S1 kx vx dn HT3.out (by have := HN2.out; have := HXL.out; omega) (some ⟨g, o1, none⟩) C2 (nkd dn L2) (by rw [hnl]; exact hM2) (by rw [hnl]; omega) (by rw [hnl]; have := HC2.out; omega) hsrc)
          have hgl3 : g < w3.heap.size := HB3.out.lt
          have HADD := Lib.hid hadd
          have HGL3 := Lib.hid hgl3
          clear hnl hrd hsrc hadd hgl3
          go_wp2_with (
           go_at_call 59
           refine HADD.out.mono ?_
           rintro e w4 ⟨l2, V2, n2, S2, ev2, rfl, k1, k2, k3, k4, k5⟩
           have G2 := Lib.hid ((k3.lab g HGL3.out).trans HGL.out)
           have Y4 := Lib.hid (HY3.out.same (k3.block g HGL3.out (by rw [HGL.out]; exact HZ.out)))
           have K1 := Lib.hid k1
           have K2 := Lib.hid k2
           have K3 := Lib.hid k3
           have K4 := Lib.hid k4
           have K5 := Lib.hid k5
           clear k1 k2 k3 k4 k5)
          go_roundw
          case rel =>
           have hgo := HGO2.out
           rw [HKL.out] at hgo
           refine ⟨O, CM, C1, m + 1, n2, f, (m : Int), YD, _, _, rfl, rfl, Lib.hid (by omega), HMC, HDL, Y4, Lib.hid hgo, HFL2, K4, Lib.hid ⟨l2, V2, S2, K1.out, ?_, (HST.out.trans (HO3.out.mono (fun _ e => .inr e))).trans (K3.out.mono (fun _ e => .inl e)), G2.out⟩, Lib.hid (by have := K2.out; have := HN2.out; have := HDL.out; omega), HRD, Lib.hid ⟨HCMX.out.1, by omega⟩⟩
           rw [K5.out, HACC.out]
          case measure =>
           have := HI.out
           have := HCMX.out
           simp [lenV, intOf]
           omega
end Go.Proofs.Ytoimkmoalmmooaa.Own
set_option linter.unusedVariables false
set_option linter.unusedSimpArgs false
namespace Go.Proofs.Ytoimkmoalmmooaa.Own
open Go.RowKit Go.Proofs.YtoimkmoalmmooaaW.PrintWords Go.Proofs.YtoimkmoalmmooaaW.PrintLast Go.Proofs.YtoimkmoalmmooaaW.PrintMore Go.Proofs.Ytoimkmoalmmooaa.Base Go.Proofs.Ytoimkmoalmmooaa.Gv Go.Proofs.Ytoimkmoalmmooaa.Given Go.Proofs.Ytoimkmoalmmooaa.QA Go.Proofs.Ytoimkmoalmmooaa.PrX
theorem fail5 {w : World} {b1 b2 : Nat} {c0 c1 c2 c3 c4 a0 a1 a2 a3 a4 x y : Value} (r1 : w.heap[b1]? = some (.cells #[c0, c1, c2, c3, c4] 32 (0, 0))) (r2 : w.heap[b2]? = some (.cells #[x] 4 (0, 0))) (hne : b1 ≠ b2) :
    ((((((w.setCell ⟨b1, 0, none⟩ a0).setCell ⟨b1, 1, none⟩ a1).setCell ⟨b1, 2, none⟩ a2).setCell ⟨b1, 3, none⟩ a3).setCell ⟨b1, 4, none⟩ a4).setCell ⟨b2, 0, none⟩ y).heap[b1]? = some (.cells #[a0, a1, a2, a3, a4] 32 (0, 0)) ∧
    ((((((w.setCell ⟨b1, 0, none⟩ a0).setCell ⟨b1, 1, none⟩ a1).setCell ⟨b1, 2, none⟩ a2).setCell ⟨b1, 3, none⟩ a3).setCell ⟨b1, 4, none⟩ a4).setCell ⟨b2, 0, none⟩ y).heap[b2]? = some (.cells #[y] 4 (0, 0)) := by
  have s0 := heap_setCell_same w b1 0 _ 32 a0 r1
  have s1 := heap_setCell_same _ b1 1 _ 32 a1 s0
  have s2 := heap_setCell_same _ b1 2 _ 32 a2 s1
  have s3 := heap_setCell_same _ b1 3 _ 32 a3 s2
  have s4 := heap_setCell_same _ b1 4 _ 32 a4 s3
  have hn : ∀ (W : World) (o : Nat) (v : Value), (W.setCell ⟨b1, o, none⟩ v).heap[b2]? = W.heap[b2]? := fun W o v => Below.heap_setCell _ _ _ _ (fun e => hne e.symm)
  refine ⟨?_, ?_⟩
  · rw [Below.heap_setCell _ _ _ _ (show b1 ≠ b2 from hne), s4]
    rfl
  · have t0 : (((((w.setCell ⟨b1, 0, none⟩ a0).setCell ⟨b1, 1, none⟩ a1).setCell ⟨b1, 2, none⟩ a2).setCell ⟨b1, 3, none⟩ a3).setCell ⟨b1, 4, none⟩ a4).heap[b2]? = some (.cells #[x] 4 (0, 0)) := by rw [hn, hn, hn, hn, hn]; exact r2
    exact heap_setCell_same _ b2 0 _ 4 y t0
set_option maxHeartbeats 1000000 in
theorem trailer_caught (b1 b2 : Nat) (u : TypeId) (pv : Value) (older : List PanicEntry) (w : World) {c0 c1 c2 c3 c4 x : Value} (r1 : w.heap[b1]? = some (.cells #[c0, c1, c2, c3, c4] 32 (0, 0))) (r2 : w.heap[b2]? = some (.cells #[x] 4 (0, 0))) (hne : b1 ≠ b2) :
    CallsD Try.prog 40 #[.pointer (some ⟨b1, 0, none⟩), .pointer (some ⟨b2, 0, none⟩)] (.panicking ({ v := .iface u pv, recovered := false } :: older)) w fun e u' w' =>
      e = .returned (.tuple #[]) ∧ u' = .panicking ({ v := .iface u pv, recovered := true } :: older) ∧
      w' = (((((w.setCell ⟨b1, 0, none⟩ (.string ⟨#[]⟩)).setCell ⟨b1, 1, none⟩ (.bool false)).setCell ⟨b1, 2, none⟩ (.int .i64 0)).setCell ⟨b1, 3, none⟩ (.slice none 0 0)).setCell ⟨b1, 4, none⟩ (.slice none 0 0)).setCell ⟨b2, 0, none⟩ (.bool false) := by
  have e0 := frozen_of_row w b1 0 _ _ r1
  have e1 := frozen_of_row w b1 1 _ _ r1
  have e2 := frozen_of_row w b1 2 _ _ r1
  have e3 := frozen_of_row w b1 3 _ _ r1
  have e4 := frozen_of_row w b1 4 _ _ r1
  have e5 := frozen_of_row w b2 0 _ _ r2
  have a0 : w.cell? ⟨b1, 0, none⟩ = some c0 := by rw [cell_of_row w _ 0 _ _ (0, 0) r1]; rfl
  have a1 : w.cell? ⟨b1, 1, none⟩ = some c1 := by rw [cell_of_row w _ 1 _ _ (0, 0) r1]; rfl
  have a2 : w.cell? ⟨b1, 2, none⟩ = some c2 := by rw [cell_of_row w _ 2 _ _ (0, 0) r1]; rfl
  have a3 : w.cell? ⟨b1, 3, none⟩ = some c3 := by rw [cell_of_row w _ 3 _ _ (0, 0) r1]; rfl
  have a4 : w.cell? ⟨b1, 4, none⟩ = some c4 := by rw [cell_of_row w _ 4 _ _ (0, 0) r1]; rfl
  have b0 : w.cell? ⟨b2, 0, none⟩ = some x := by rw [cell_of_row w _ 0 _ _ (0, 0) r2]; rfl
  refine callsD_of_wpS Try.func40 rfl fun c₀ cs hu => ?_
  apply wpS_seq
  apply wpS_region
  simp [wpOpsS, go_sem, recoverD, hu, Try.ntmps40, Exit.thenS]
  refine wpS_cond (t := true) (by simp [Act.eval, Array.replicate]) ?_
  simp only [if_true]
  apply wpS_region
  simp [wpOpsS, go_sem, a0, a1, a2, a3, a4, b0, e0, e1, e2, e3, e4, e5, bodyPostS, results, Try.results40]
end Go.Proofs.Ytoimkmoalmmooaa.Own
set_option linter.unusedVariables false
set_option linter.unusedSimpArgs false
namespace Go.Proofs.Ytoimkmoalmmooaa.Own
open Go.RowKit Go.Proofs.YtoimkmoalmmooaaW.PrintWords Go.Proofs.YtoimkmoalmmooaaW.PrintLast Go.Proofs.YtoimkmoalmmooaaW.PrintMore Go.Proofs.Ytoimkmoalmmooaa.Base Go.Proofs.Ytoimkmoalmmooaa.Gv Go.Proofs.Ytoimkmoalmmooaa.Given Go.Proofs.Ytoimkmoalmmooaa.QA Go.Proofs.Ytoimkmoalmmooaa.PrX
def StepP (l : Nat → Nat) (w : World) (q : Nat) (e : Ending) (w' : World) : Prop := e = .returned (.tuple #[.agg #[.string ⟨#[]⟩, .bool false, .int .i64 0, .slice none 0 0, .slice none 0 0], .bool false]) ∧ ∃ l1, Stp (Tz q) l l1 w w'
set_option maxHeartbeats 4000000 in
set_option maxRecDepth 100000 in
theorem trailer_set_panics (l : Nat → Nat) (w : World) (q p n : Nat) (V kv vv : Value) (S : List Slot) (kx vx : List Int) (dn : Bool) (h : TrC l w q p V n S kv kx vv vx dn) (hn : n ≤ 1099511627775) (s : S28) (hk0 : s.f1.size = 0) (hvs : s.f2.size ≤ 140737488351232) (hdo : s.f0 = 0) :
    Calls Try.prog 26 #[.pointer (some ⟨p, 0, none⟩), .agg #[.int .i64 s.f0, .string s.f1, .string s.f2, .int .i64 s.f3, .int .i64 s.f4]] w fun e w' => StepP l w q e w' := by
  have st0 := Stp.of_below (W3_below w s) (fun _ => False) l 0
  have hT := h.keep st0 (fun _ k => k.elim)
  have y0 := W3_0 w s
  have y1 := W3_1 w s
  have y2 := W3_2 w s
  have hsz := W3_size w s
  obtain ⟨W, hW⟩ : ∃ W, W3 w s = W := ⟨_, rfl⟩
  have hW' := hW
  rw [hW] at hT st0 y0 y1 y2 hsz
  unfold W3 at hW'
  have hg := tSet_panics _ W q p n V kv vv S kx vx dn hT hn s.f1 s.f2 hk0 hvs
  have HG := Lib.hid hg
  clear hg
  have HT := Lib.hid hT
  have HS0 := Lib.hid st0
  have Y1 := Lib.hid y1
  have Y2 := Lib.hid y2
  have c0 : W.cell? ⟨w.heap.size, 0, none⟩ = some (.int .i64 s.f0) := by rw [cell_of_row W _ 0 _ _ (0, 0) y0]; rfl
  have c1 : W.cell? ⟨w.heap.size, 1, none⟩ = some (.string s.f1) := by rw [cell_of_row W _ 1 _ _ (0, 0) y0]; rfl
  have c2 : W.cell? ⟨w.heap.size, 2, none⟩ = some (.string s.f2) := by rw [cell_of_row W _ 2 _ _ (0, 0) y0]; rfl
  rw [hdo] at c0
  have HW := Lib.hid hW'
  have HSZ := Lib.hid hsz
  rw [← hW'] at c0 c1 c2
  have hmf : ∀ (fn : Fn) (first cap : Array Value) (w : World), (Instr.makeFunc fn first cap).run Try.prog w = .ok (.func fn first cap) w := fun _ _ _ _ => rfl
  have HDO := Lib.hid hdo
  clear h hT y0 y1 y2 st0 hW hW' hsz hdo
  go_enter_defers Try.func26, Try.ntmps26
  go_wp2_with (first
    | (go_at_call 41
       rw [HW.out]
       refine HG.out.mono ?_
       rintro e w4 ⟨⟨u, v, rfl⟩, l4, st4⟩
       have lt1 : w.heap.size + 1 < W.heap.size := by rw [HSZ.out]; omega
       have lt2 : w.heap.size + 2 < W.heap.size := by rw [HSZ.out]; omega
       have lb0 : ¬ Tz q 0 := by have := HT.out.1; have := HT.out.2.1; unfold Tz; omega
       have r1 := (st4.block (w.heap.size + 1) lt1 (by rw [ext_new l (by omega)]; exact lb0)).trans Y1.out
       have r2 := (st4.block (w.heap.size + 2) lt2 (by rw [ext_new l (by omega)]; exact lb0)).trans Y2.out
       have R1 := Lib.hid r1
       have R2 := Lib.hid r2
       have ST4 := Lib.hid st4
       clear lt1 lt2 lb0 r1 r2 st4))
  refine leaves_cons (f := 40) (args := #[.pointer (some ⟨w.heap.size + 1, 0, none⟩), .pointer (some ⟨w.heap.size + 1 + 1, 0, none⟩)]) (by simp) (by simp [go_sem]) ?_
  refine (trailer_caught (w.heap.size + 1) (w.heap.size + 1 + 1) u v [] w4 R1.out R2.out (by omega)).mono ?_
  rintro e u' w'' ⟨rfl, rfl, rfl⟩
  obtain ⟨f1, f2⟩ := fail5 (a0 := .string ⟨#[]⟩) (a1 := .bool false) (a2 := .int .i64 0) (a3 := .slice none 0 0) (a4 := .slice none 0 0) (y := .bool false) R1.out R2.out (by omega)
  have HS5 := Lib.hid ((((((((HS0.out.mono (fun _ k => k.elim) : Stp (Tz q) _ _ _ _).trans ST4.out).setNew (a := ⟨w.heap.size + 1, 0, none⟩) (by show _ ≤ w.heap.size + 1; omega) (.string ⟨#[]⟩)).setNew (a := ⟨w.heap.size + 1, 1, none⟩) (by show _ ≤ w.heap.size + 1; omega) (.bool false)).setNew (a := ⟨w.heap.size + 1, 2, none⟩) (by show _ ≤ w.heap.size + 1; omega) (.int .i64 0)).setNew (a := ⟨w.heap.size + 1, 3, none⟩) (by show _ ≤ w.heap.size + 1; omega) (.slice none 0 0)).setNew (a := ⟨w.heap.size + 1, 4, none⟩) (by show _ ≤ w.heap.size + 1; omega) (.slice none 0 0)).setNew (a := ⟨w.heap.size + 1 + 1, 0, none⟩) (by show _ ≤ w.heap.size + 1 + 1; omega) (.bool false))
  generalize ((((((w4.setCell ⟨w.heap.size + 1, 0, none⟩ (.string ⟨#[]⟩)).setCell ⟨w.heap.size + 1, 1, none⟩ (.bool false)).setCell ⟨w.heap.size + 1, 2, none⟩ (.int .i64 0)).setCell ⟨w.heap.size + 1, 3, none⟩ (.slice none 0 0)).setCell ⟨w.heap.size + 1, 4, none⟩ (.slice none 0 0)).setCell ⟨w.heap.size + 1 + 1, 0, none⟩ (.bool false)) = w5 at *
  have g0 : w5.cell? ⟨w.heap.size + 1, 0, none⟩ = some (.string ⟨#[]⟩) := by rw [cell_of_row w5 _ 0 _ _ (0, 0) f1]; rfl
  have g1 : w5.cell? ⟨w.heap.size + 1, 1, none⟩ = some (.bool false) := by rw [cell_of_row w5 _ 1 _ _ (0, 0) f1]; rfl
  have g2 : w5.cell? ⟨w.heap.size + 1, 2, none⟩ = some (.int .i64 0) := by rw [cell_of_row w5 _ 2 _ _ (0, 0) f1]; rfl
  have g3 : w5.cell? ⟨w.heap.size + 1, 3, none⟩ = some (.slice none 0 0) := by rw [cell_of_row w5 _ 3 _ _ (0, 0) f1]; rfl
  have g4 : w5.cell? ⟨w.heap.size + 1, 4, none⟩ = some (.slice none 0 0) := by rw [cell_of_row w5 _ 4 _ _ (0, 0) f1]; rfl
  have g5 : w5.cell? ⟨w.heap.size + 1 + 1, 0, none⟩ = some (.bool false) := by rw [cell_of_row w5 _ 0 _ _ (0, 0) f2]; rfl
  simp [Leaves, settle, results, Try.results26, go_sem, g0, g1, g2, g3, g4, g5]
  exact ⟨rfl, _, HS5.out⟩
set_option maxHeartbeats 4000000 in
set_option maxRecDepth 100000 in
theorem trailer_add_panics (l : Nat → Nat) (w : World) (q p n : Nat) (V kv vv : Value) (S : List Slot) (kx vx : List Int) (dn : Bool) (h : TrC l w q p V n S kv kx vv vx dn) (hn : n ≤ 1099511627775) (s : S28) (hk0 : s.f1.size = 0) (hvs : s.f2.size ≤ 140737488351232) (hdo : s.f0 = 1) :
    Calls Try.prog 26 #[.pointer (some ⟨p, 0, none⟩), .agg #[.int .i64 s.f0, .string s.f1, .string s.f2, .int .i64 s.f3, .int .i64 s.f4]] w fun e w' => StepP l w q e w' := by
  have st0 := Stp.of_below (W3_below w s) (fun _ => False) l 0
  have hT := h.keep st0 (fun _ k => k.elim)
  have y0 := W3_0 w s
  have y1 := W3_1 w s
  have y2 := W3_2 w s
  have hsz := W3_size w s
  obtain ⟨W, hW⟩ : ∃ W, W3 w s = W := ⟨_, rfl⟩
  have hW' := hW
  rw [hW] at hT st0 y0 y1 y2 hsz
  unfold W3 at hW'
  have hg := tAdd_panics _ W q p n V kv vv S kx vx dn hT hn s.f1 s.f2 hk0 hvs
  have HG := Lib.hid hg
  clear hg
  have HT := Lib.hid hT
  have HS0 := Lib.hid st0
  have Y1 := Lib.hid y1
  have Y2 := Lib.hid y2
  have c0 : W.cell? ⟨w.heap.size, 0, none⟩ = some (.int .i64 s.f0) := by rw [cell_of_row W _ 0 _ _ (0, 0) y0]; rfl
  have c1 : W.cell? ⟨w.heap.size, 1, none⟩ = some (.string s.f1) := by rw [cell_of_row W _ 1 _ _ (0, 0) y0]; rfl
  have c2 : W.cell? ⟨w.heap.size, 2, none⟩ = some (.string s.f2) := by rw [cell_of_row W _ 2 _ _ (0, 0) y0]; rfl
  rw [hdo] at c0
  have HW := Lib.hid hW'
  have HSZ := Lib.hid hsz
  rw [← hW'] at c0 c1 c2
  have hmf : ∀ (fn : Fn) (first cap : Array Value) (w : World), (Instr.makeFunc fn first cap).run Try.prog w = .ok (.func fn first cap) w := fun _ _ _ _ => rfl
  have HDO := Lib.hid hdo
  clear h hT y0 y1 y2 st0 hW hW' hsz hdo
  go_enter_defers Try.func26, Try.ntmps26
  go_wp2_with (first
    | (go_at_call 42
       rw [HW.out]
       refine HG.out.mono ?_
       rintro e w4 ⟨⟨u, v, rfl⟩, l4, st4⟩
       have lt1 : w.heap.size + 1 < W.heap.size := by rw [HSZ.out]; omega
       have lt2 : w.heap.size + 2 < W.heap.size := by rw [HSZ.out]; omega
       have lb0 : ¬ Tz q 0 := by have := HT.out.1; have := HT.out.2.1; unfold Tz; omega
       have r1 := (st4.block (w.heap.size + 1) lt1 (by rw [ext_new l (by omega)]; exact lb0)).trans Y1.out
       have r2 := (st4.block (w.heap.size + 2) lt2 (by rw [ext_new l (by omega)]; exact lb0)).trans Y2.out
       have R1 := Lib.hid r1
       have R2 := Lib.hid r2
       have ST4 := Lib.hid st4
       clear lt1 lt2 lb0 r1 r2 st4))
  refine leaves_cons (f := 40) (args := #[.pointer (some ⟨w.heap.size + 1, 0, none⟩), .pointer (some ⟨w.heap.size + 1 + 1, 0, none⟩)]) (by simp) (by simp [go_sem]) ?_
  refine (trailer_caught (w.heap.size + 1) (w.heap.size + 1 + 1) u v [] w4 R1.out R2.out (by omega)).mono ?_
  rintro e u' w'' ⟨rfl, rfl, rfl⟩
  obtain ⟨f1, f2⟩ := fail5 (a0 := .string ⟨#[]⟩) (a1 := .bool false) (a2 := .int .i64 0) (a3 := .slice none 0 0) (a4 := .slice none 0 0) (y := .bool false) R1.out R2.out (by omega)
  have HS5 := Lib.hid ((((((((HS0.out.mono (fun _ k => k.elim) : Stp (Tz q) _ _ _ _).trans ST4.out).setNew (a := ⟨w.heap.size + 1, 0, none⟩) (by show _ ≤ w.heap.size + 1; omega) (.string ⟨#[]⟩)).setNew (a := ⟨w.heap.size + 1, 1, none⟩) (by show _ ≤ w.heap.size + 1; omega) (.bool false)).setNew (a := ⟨w.heap.size + 1, 2, none⟩) (by show _ ≤ w.heap.size + 1; omega) (.int .i64 0)).setNew (a := ⟨w.heap.size + 1, 3, none⟩) (by show _ ≤ w.heap.size + 1; omega) (.slice none 0 0)).setNew (a := ⟨w.heap.size + 1, 4, none⟩) (by show _ ≤ w.heap.size + 1; omega) (.slice none 0 0)).setNew (a := ⟨w.heap.size + 1 + 1, 0, none⟩) (by show _ ≤ w.heap.size + 1 + 1; omega) (.bool false))
  generalize ((((((w4.setCell ⟨w.heap.size + 1, 0, none⟩ (.string ⟨#[]⟩)).setCell ⟨w.heap.size + 1, 1, none⟩ (.bool false)).setCell ⟨w.heap.size + 1, 2, none⟩ (.int .i64 0)).setCell ⟨w.heap.size + 1, 3, none⟩ (.slice none 0 0)).setCell ⟨w.heap.size + 1, 4, none⟩ (.slice none 0 0)).setCell ⟨w.heap.size + 1 + 1, 0, none⟩ (.bool false)) = w5 at *
  have g0 : w5.cell? ⟨w.heap.size + 1, 0, none⟩ = some (.string ⟨#[]⟩) := by rw [cell_of_row w5 _ 0 _ _ (0, 0) f1]; rfl
  have g1 : w5.cell? ⟨w.heap.size + 1, 1, none⟩ = some (.bool false) := by rw [cell_of_row w5 _ 1 _ _ (0, 0) f1]; rfl
  have g2 : w5.cell? ⟨w.heap.size + 1, 2, none⟩ = some (.int .i64 0) := by rw [cell_of_row w5 _ 2 _ _ (0, 0) f1]; rfl
  have g3 : w5.cell? ⟨w.heap.size + 1, 3, none⟩ = some (.slice none 0 0) := by rw [cell_of_row w5 _ 3 _ _ (0, 0) f1]; rfl
  have g4 : w5.cell? ⟨w.heap.size + 1, 4, none⟩ = some (.slice none 0 0) := by rw [cell_of_row w5 _ 4 _ _ (0, 0) f1]; rfl
  have g5 : w5.cell? ⟨w.heap.size + 1 + 1, 0, none⟩ = some (.bool false) := by rw [cell_of_row w5 _ 0 _ _ (0, 0) f2]; rfl
  simp [Leaves, settle, results, Try.results26, go_sem, g0, g1, g2, g3, g4, g5]
  exact ⟨rfl, _, HS5.out⟩
set_option maxHeartbeats 4000000 in
set_option maxRecDepth 100000 in
theorem trailer_upd_panics (l : Nat → Nat) (w : World) (q p n : Nat) (V kv vv : Value) (S : List Slot) (kx vx : List Int) (dn : Bool) (h : TrC l w q p V n S kv kx vv vx dn) (hn : n ≤ 1099511627775) (s : S28) (hk0 : s.f1.size = 0) (hvs : s.f2.size ≤ 140737488351232) (hdo : s.f0 = 9) :
    Calls Try.prog 26 #[.pointer (some ⟨p, 0, none⟩), .agg #[.int .i64 s.f0, .string s.f1, .string s.f2, .int .i64 s.f3, .int .i64 s.f4]] w fun e w' => StepP l w q e w' := by
  have st0 := Stp.of_below (W3_below w s) (fun _ => False) l 0
  have hT := h.keep st0 (fun _ k => k.elim)
  have y0 := W3_0 w s
  have y1 := W3_1 w s
  have y2 := W3_2 w s
  have hsz := W3_size w s
  obtain ⟨W, hW⟩ : ∃ W, W3 w s = W := ⟨_, rfl⟩
  have hW' := hW
  rw [hW] at hT st0 y0 y1 y2 hsz
  unfold W3 at hW'
  have hcv1 := Lib.run_convert_string_bytes (P := Try.prog) W 9 54 5 s.f1 Try.underlying9 Try.underlying54 Try.underlying5
  have hbl1 := conv_below W 5 s.f1
  have br1 := Br.conv W 5 s.f1
  have sz1 := Lib.bytesWorld_size W 5 s.f1
  have cap1 := grownCap_ge W s.f1.size 0 5
  obtain ⟨cc1, hcc1⟩ : ∃ c, grownCap W s.f1.size 0 5 = c := ⟨_, rfl⟩
  rw [hcc1] at hcv1 cap1
  obtain ⟨U1, hU1⟩ : ∃ X, Lib.bytesWorld W 5 s.f1 = X := ⟨_, rfl⟩
  rw [hU1] at hcv1 hbl1 br1 sz1
  obtain ⟨g1, hg1⟩ : ∃ g, W.heap.size = g := ⟨_, rfl⟩
  rw [hg1] at hcv1 br1 sz1
  have hT1 := hT.keep (Stp.of_below_same hbl1 (fun _ => False) (ext l w.heap.size 0)) (fun _ k => k.elim)
  have st1 := Stp.of_below_same hbl1 (Tz q) (ext l w.heap.size 0)
  have hcv2 := Lib.run_convert_string_bytes (P := Try.prog) U1 9 54 5 s.f2 Try.underlying9 Try.underlying54 Try.underlying5
  have hbl2 := conv_below U1 5 s.f2
  have br2 := Br.conv U1 5 s.f2
  have sz2 := Lib.bytesWorld_size U1 5 s.f2
  have cap2 := grownCap_ge U1 s.f2.size 0 5
  obtain ⟨cc2, hcc2⟩ : ∃ c, grownCap U1 s.f2.size 0 5 = c := ⟨_, rfl⟩
  rw [hcc2] at hcv2 cap2
  obtain ⟨U2, hU2⟩ : ∃ X, Lib.bytesWorld U1 5 s.f2 = X := ⟨_, rfl⟩
  rw [hU2] at hcv2 hbl2 br2 sz2
  obtain ⟨g2, hg2⟩ : ∃ g, U1.heap.size = g := ⟨_, rfl⟩
  rw [hg2] at hcv2 br2 sz2
  have hT2 := hT1.keep (Stp.of_below_same hbl2 (fun _ => False) (ext l w.heap.size 0)) (fun _ k => k.elim)
  have st2 := Stp.of_below_same hbl2 (Tz q) (ext l w.heap.size 0)
  have hg := tUpd_panics U2 (.pointer (some ⟨p, 0, none⟩)) (some ⟨g1, 0, none⟩) (some ⟨g2, 0, none⟩) cc1 s.f2.size cc2
  rw [hk0] at hcv1
  have HG := Lib.hid hg
  have ST12 := Lib.hid (st1.trans st2)
  have y0' := (hbl1.block w.heap.size (by omega)).trans y0
  have c2' : U1.cell? ⟨w.heap.size, 2, none⟩ = some (.string s.f2) := by rw [cell_of_row U1 _ 2 _ _ (0, 0) y0']; rfl
  rw [← hW'] at hcv1
  clear hg hk0 hvs st1 st2 hT1 hT2 br1 br2 sz1 sz2 hbl1 hbl2 cap1 cap2 hcc1 hcc2 hU1 hU2 hg1 hg2 y0'
  have HT := Lib.hid hT
  have HS0 := Lib.hid st0
  have Y1 := Lib.hid y1
  have Y2 := Lib.hid y2
  have c0 : W.cell? ⟨w.heap.size, 0, none⟩ = some (.int .i64 s.f0) := by rw [cell_of_row W _ 0 _ _ (0, 0) y0]; rfl
  have c1 : W.cell? ⟨w.heap.size, 1, none⟩ = some (.string s.f1) := by rw [cell_of_row W _ 1 _ _ (0, 0) y0]; rfl
  have c2 : W.cell? ⟨w.heap.size, 2, none⟩ = some (.string s.f2) := by rw [cell_of_row W _ 2 _ _ (0, 0) y0]; rfl
  rw [hdo] at c0
  have HW := Lib.hid hW'
  have HSZ := Lib.hid hsz
  rw [← hW'] at c0 c1 c2
  have hmf : ∀ (fn : Fn) (first cap : Array Value) (w : World), (Instr.makeFunc fn first cap).run Try.prog w = .ok (.func fn first cap) w := fun _ _ _ _ => rfl
  have HDO := Lib.hid hdo
  clear h hT y0 y1 y2 st0 hW hW' hsz hdo
  go_enter_defers Try.func26, Try.ntmps26
  go_wp2_with (first
    | (go_at_call 50
       refine HG.out.mono ?_
       rintro e w4 ⟨⟨u, v, rfl⟩, hw4⟩
       have st4 : Stp (Tz q) (ext l w.heap.size 0) (ext l w.heap.size 0) W U2.drew := ST12.out.trans (drew_stp (Tz q) _ U2 1)
       rw [hw4] at st4
       clear hw4
       have lt1 : w.heap.size + 1 < W.heap.size := by rw [HSZ.out]; omega
       have lt2 : w.heap.size + 2 < W.heap.size := by rw [HSZ.out]; omega
       have lb0 : ¬ Tz q 0 := by have := HT.out.1; have := HT.out.2.1; unfold Tz; omega
       have r1 := (st4.block (w.heap.size + 1) lt1 (by rw [ext_new l (by omega)]; exact lb0)).trans Y1.out
       have r2 := (st4.block (w.heap.size + 2) lt2 (by rw [ext_new l (by omega)]; exact lb0)).trans Y2.out
       have R1 := Lib.hid r1
       have R2 := Lib.hid r2
       have ST4 := Lib.hid st4
       clear lt1 lt2 lb0 r1 r2 st4))
  refine leaves_cons (f := 40) (args := #[.pointer (some ⟨w.heap.size + 1, 0, none⟩), .pointer (some ⟨w.heap.size + 1 + 1, 0, none⟩)]) (by simp) (by simp [go_sem]) ?_
  refine (trailer_caught (w.heap.size + 1) (w.heap.size + 1 + 1) u v [] w4 R1.out R2.out (by omega)).mono ?_
  rintro e u' w'' ⟨rfl, rfl, rfl⟩
  obtain ⟨f1, f2⟩ := fail5 (a0 := .string ⟨#[]⟩) (a1 := .bool false) (a2 := .int .i64 0) (a3 := .slice none 0 0) (a4 := .slice none 0 0) (y := .bool false) R1.out R2.out (by omega)
  have HS5 := Lib.hid ((((((((HS0.out.mono (fun _ k => k.elim) : Stp (Tz q) _ _ _ _).trans ST4.out).setNew (a := ⟨w.heap.size + 1, 0, none⟩) (by show _ ≤ w.heap.size + 1; omega) (.string ⟨#[]⟩)).setNew (a := ⟨w.heap.size + 1, 1, none⟩) (by show _ ≤ w.heap.size + 1; omega) (.bool false)).setNew (a := ⟨w.heap.size + 1, 2, none⟩) (by show _ ≤ w.heap.size + 1; omega) (.int .i64 0)).setNew (a := ⟨w.heap.size + 1, 3, none⟩) (by show _ ≤ w.heap.size + 1; omega) (.slice none 0 0)).setNew (a := ⟨w.heap.size + 1, 4, none⟩) (by show _ ≤ w.heap.size + 1; omega) (.slice none 0 0)).setNew (a := ⟨w.heap.size + 1 + 1, 0, none⟩) (by show _ ≤ w.heap.size + 1 + 1; omega) (.bool false))
  generalize ((((((w4.setCell ⟨w.heap.size + 1, 0, none⟩ (.string ⟨#[]⟩)).setCell ⟨w.heap.size + 1, 1, none⟩ (.bool false)).setCell ⟨w.heap.size + 1, 2, none⟩ (.int .i64 0)).setCell ⟨w.heap.size + 1, 3, none⟩ (.slice none 0 0)).setCell ⟨w.heap.size + 1, 4, none⟩ (.slice none 0 0)).setCell ⟨w.heap.size + 1 + 1, 0, none⟩ (.bool false)) = w5 at *
  have g0 : w5.cell? ⟨w.heap.size + 1, 0, none⟩ = some (.string ⟨#[]⟩) := by rw [cell_of_row w5 _ 0 _ _ (0, 0) f1]; rfl
  have g1 : w5.cell? ⟨w.heap.size + 1, 1, none⟩ = some (.bool false) := by rw [cell_of_row w5 _ 1 _ _ (0, 0) f1]; rfl
  have g2 : w5.cell? ⟨w.heap.size + 1, 2, none⟩ = some (.int .i64 0) := by rw [cell_of_row w5 _ 2 _ _ (0, 0) f1]; rfl
  have g3 : w5.cell? ⟨w.heap.size + 1, 3, none⟩ = some (.slice none 0 0) := by rw [cell_of_row w5 _ 3 _ _ (0, 0) f1]; rfl
  have g4 : w5.cell? ⟨w.heap.size + 1, 4, none⟩ = some (.slice none 0 0) := by rw [cell_of_row w5 _ 4 _ _ (0, 0) f1]; rfl
  have g5 : w5.cell? ⟨w.heap.size + 1 + 1, 0, none⟩ = some (.bool false) := by rw [cell_of_row w5 _ 0 _ _ (0, 0) f2]; rfl
  simp [Leaves, settle, results, Try.results26, go_sem, g0, g1, g2, g3, g4, g5]
  exact ⟨rfl, _, HS5.out⟩
set_option maxHeartbeats 4000000 in
set_option maxRecDepth 100000 in
theorem trailer_names_panics (l : Nat → Nat) (w : World) (q p n : Nat) (V kv vv : Value) (S : List Slot) (kx vx : List Int) (dn : Bool) (h : TrC l w q p V n S kv kx vv vx dn) (hn : n ≤ 1099511627775) (s : S28) (hvs : s.f2.size ≤ 1099511627775) (f0 : Nat) (hf0 : s.f2.size ≤ f0) (hset : setGo dn f0 (ns s.f2) [] false = none) (hdo : s.f0 = 4) :
    Calls Try.prog 26 #[.pointer (some ⟨p, 0, none⟩), .agg #[.int .i64 s.f0, .string s.f1, .string s.f2, .int .i64 s.f3, .int .i64 s.f4]] w fun e w' => StepP l w q e w' := by
  have st0 := Stp.of_below (W3_below w s) (fun _ => False) l 0
  have hT := h.keep st0 (fun _ k => k.elim)
  have y0 := W3_0 w s
  have y1 := W3_1 w s
  have y2 := W3_2 w s
  have hsz := W3_size w s
  obtain ⟨W, hW⟩ : ∃ W, W3 w s = W := ⟨_, rfl⟩
  have hW' := hW
  rw [hW] at hT st0 y0 y1 y2 hsz
  unfold W3 at hW'
  have hcv1 := Lib.run_convert_string_bytes (P := Try.prog) W 9 54 5 s.f2 Try.underlying9 Try.underlying54 Try.underlying5
  have hbl1 := conv_below W 5 s.f2
  have br1 := Br.conv W 5 s.f2
  have sz1 := Lib.bytesWorld_size W 5 s.f2
  have cap1 := grownCap_ge W s.f2.size 0 5
  obtain ⟨cc1, hcc1⟩ : ∃ c, grownCap W s.f2.size 0 5 = c := ⟨_, rfl⟩
  rw [hcc1] at hcv1 cap1
  obtain ⟨U1, hU1⟩ : ∃ X, Lib.bytesWorld W 5 s.f2 = X := ⟨_, rfl⟩
  rw [hU1] at hcv1 hbl1 br1 sz1
  obtain ⟨g1, hg1⟩ : ∃ g, W.heap.size = g := ⟨_, rfl⟩
  rw [hg1] at hcv1 br1 sz1
  obtain ⟨zl, z1, z2, z3⟩ := fresh_label (ext l w.heap.size 0) W.heap.size
  have hz : ¬ Tz q zl := by have := hT.1; have := hT.2.1; unfold Tz; omega
  have st1 := Stp.of_below hbl1 (fun lab => Tz q lab ∨ lab = zl) (ext l w.heap.size 0) zl
  have hT1 := hT.keep (Stp.of_below hbl1 (fun _ => False) (ext l w.heap.size 0) zl) (fun _ k => k.elim)
  rw [hg1] at st1 hT1
  have hg := tSetT_panics (ext (ext l w.heap.size 0) g1 zl) U1 q p n V kv vv S kx vx dn hT1 zl g1 cc1 hz (ext_new _ (Nat.le_refl _)) (ns s.f2) (fun x k => ns_range s.f2 x k) (Br.bro br1) (by rw [ns_length]; exact cap1) (by rw [ns_length]; exact hvs) f0 (by rw [ns_length]; exact hf0) hset
  rw [ns_length] at hg
  have HG := Lib.hid hg
  have ST1 := Lib.hid st1
  have HF1 := Lib.hid z1
  rw [← hW'] at hcv1
  clear hg hset hvs hf0 st1 hT1 br1 sz1 hbl1 cap1 hcc1 hU1 hg1 z1 z2 z3 hz
  have HT := Lib.hid hT
  have HS0 := Lib.hid st0
  have Y1 := Lib.hid y1
  have Y2 := Lib.hid y2
  have c0 : W.cell? ⟨w.heap.size, 0, none⟩ = some (.int .i64 s.f0) := by rw [cell_of_row W _ 0 _ _ (0, 0) y0]; rfl
  have c1 : W.cell? ⟨w.heap.size, 1, none⟩ = some (.string s.f1) := by rw [cell_of_row W _ 1 _ _ (0, 0) y0]; rfl
  have c2 : W.cell? ⟨w.heap.size, 2, none⟩ = some (.string s.f2) := by rw [cell_of_row W _ 2 _ _ (0, 0) y0]; rfl
  rw [hdo] at c0
  have HW := Lib.hid hW'
  have HSZ := Lib.hid hsz
  rw [← hW'] at c0 c1 c2
  have hmf : ∀ (fn : Fn) (first cap : Array Value) (w : World), (Instr.makeFunc fn first cap).run Try.prog w = .ok (.func fn first cap) w := fun _ _ _ _ => rfl
  have HDO := Lib.hid hdo
  clear h hT y0 y1 y2 st0 hW hW' hsz hdo
  go_enter_defers Try.func26, Try.ntmps26
  go_wp2_with (first
    | (go_at_call 45
       refine HG.out.mono ?_
       rintro e w4 ⟨⟨u, v, rfl⟩, l4, hst⟩
       have st4 := (ST1.out.trans hst).less HF1.out
       clear hst
       have lt1 : w.heap.size + 1 < W.heap.size := by rw [HSZ.out]; omega
       have lt2 : w.heap.size + 2 < W.heap.size := by rw [HSZ.out]; omega
       have lb0 : ¬ Tz q 0 := by have := HT.out.1; have := HT.out.2.1; unfold Tz; omega
       have r1 := (st4.block (w.heap.size + 1) lt1 (by rw [ext_new l (by omega)]; exact lb0)).trans Y1.out
       have r2 := (st4.block (w.heap.size + 2) lt2 (by rw [ext_new l (by omega)]; exact lb0)).trans Y2.out
       have R1 := Lib.hid r1
       have R2 := Lib.hid r2
       have ST4 := Lib.hid st4
       clear lt1 lt2 lb0 r1 r2 st4))
  refine leaves_cons (f := 40) (args := #[.pointer (some ⟨w.heap.size + 1, 0, none⟩), .pointer (some ⟨w.heap.size + 1 + 1, 0, none⟩)]) (by simp) (by simp [go_sem]) ?_
  refine (trailer_caught (w.heap.size + 1) (w.heap.size + 1 + 1) u v [] w4 R1.out R2.out (by omega)).mono ?_
  rintro e u' w'' ⟨rfl, rfl, rfl⟩
  obtain ⟨f1, f2⟩ := fail5 (a0 := .string ⟨#[]⟩) (a1 := .bool false) (a2 := .int .i64 0) (a3 := .slice none 0 0) (a4 := .slice none 0 0) (y := .bool false) R1.out R2.out (by omega)
  have HS5 := Lib.hid ((((((((HS0.out.mono (fun _ k => k.elim) : Stp (Tz q) _ _ _ _).trans ST4.out).setNew (a := ⟨w.heap.size + 1, 0, none⟩) (by show _ ≤ w.heap.size + 1; omega) (.string ⟨#[]⟩)).setNew (a := ⟨w.heap.size + 1, 1, none⟩) (by show _ ≤ w.heap.size + 1; omega) (.bool false)).setNew (a := ⟨w.heap.size + 1, 2, none⟩) (by show _ ≤ w.heap.size + 1; omega) (.int .i64 0)).setNew (a := ⟨w.heap.size + 1, 3, none⟩) (by show _ ≤ w.heap.size + 1; omega) (.slice none 0 0)).setNew (a := ⟨w.heap.size + 1, 4, none⟩) (by show _ ≤ w.heap.size + 1; omega) (.slice none 0 0)).setNew (a := ⟨w.heap.size + 1 + 1, 0, none⟩) (by show _ ≤ w.heap.size + 1 + 1; omega) (.bool false))
  generalize ((((((w4.setCell ⟨w.heap.size + 1, 0, none⟩ (.string ⟨#[]⟩)).setCell ⟨w.heap.size + 1, 1, none⟩ (.bool false)).setCell ⟨w.heap.size + 1, 2, none⟩ (.int .i64 0)).setCell ⟨w.heap.size + 1, 3, none⟩ (.slice none 0 0)).setCell ⟨w.heap.size + 1, 4, none⟩ (.slice none 0 0)).setCell ⟨w.heap.size + 1 + 1, 0, none⟩ (.bool false)) = w5 at *
  have g0 : w5.cell? ⟨w.heap.size + 1, 0, none⟩ = some (.string ⟨#[]⟩) := by rw [cell_of_row w5 _ 0 _ _ (0, 0) f1]; rfl
  have g1 : w5.cell? ⟨w.heap.size + 1, 1, none⟩ = some (.bool false) := by rw [cell_of_row w5 _ 1 _ _ (0, 0) f1]; rfl
  have g2 : w5.cell? ⟨w.heap.size + 1, 2, none⟩ = some (.int .i64 0) := by rw [cell_of_row w5 _ 2 _ _ (0, 0) f1]; rfl
  have g3 : w5.cell? ⟨w.heap.size + 1, 3, none⟩ = some (.slice none 0 0) := by rw [cell_of_row w5 _ 3 _ _ (0, 0) f1]; rfl
  have g4 : w5.cell? ⟨w.heap.size + 1, 4, none⟩ = some (.slice none 0 0) := by rw [cell_of_row w5 _ 4 _ _ (0, 0) f1]; rfl
  have g5 : w5.cell? ⟨w.heap.size + 1 + 1, 0, none⟩ = some (.bool false) := by rw [cell_of_row w5 _ 0 _ _ (0, 0) f2]; rfl
  simp [Leaves, settle, results, Try.results26, go_sem, g0, g1, g2, g3, g4, g5]
  exact ⟨rfl, _, HS5.out⟩
end Go.Proofs.Ytoimkmoalmmooaa.Own
set_option linter.unusedVariables false
set_option linter.unusedSimpArgs false
namespace Go.Proofs.Ytoimkmoalmmooaa.Own
open Go.RowKit Go.Proofs.YtoimkmoalmmooaaW.PrintWords Go.Proofs.YtoimkmoalmmooaaW.PrintLast Go.Proofs.YtoimkmoalmmooaaW.PrintMore Go.Proofs.Ytoimkmoalmmooaa.Base Go.Proofs.Ytoimkmoalmmooaa.Gv Go.Proofs.Ytoimkmoalmmooaa.Given Go.Proofs.Ytoimkmoalmmooaa.QA Go.Proofs.Ytoimkmoalmmooaa.PrX
abbrev Ans := S32
def stepX (dn : Bool) (L : List KVx) (s : Step) : Bool :=
  decide (L.length ≤ 1099511627775 ∧ s.f1.size ≤ 1099511627775 ∧ s.f2.size ≤ 1099511627775) && ((decide (s.f0 = 0 ∨ s.f0 = 1 ∨ s.f0 = 9) && decide (s.f1.size = 0)) || (decide (s.f0 = 4) && (setGo dn s.f2.size (ns s.f2) [] false).isNone))
theorem trailer_panics (l : Nat → Nat) (w : World) (q p n : Nat) (V kv vv : Value) (S : List Slot) (kx vx : List Int) (dn : Bool) (h : TrC l w q p V n S kv kx vv vx dn) (s : Step) (hx : stepX dn (kvs S n) s = true) :
    Calls Try.prog 26 #[.pointer (some ⟨p, 0, none⟩), .agg #[.int .i64 s.f0, .string s.f1, .string s.f2, .int .i64 s.f3, .int .i64 s.f4]] w fun e w' => StepP l w q e w' := by
  unfold stepX at hx
  simp only [Bool.and_eq_true, Bool.or_eq_true, decide_eq_true_eq] at hx
  obtain ⟨⟨hL, h1, h2⟩, hx⟩ := hx
  have hlen := kvs_length h.2.2.2.1.le
  rw [hlen] at hL
  rcases hx with ⟨hd, h0⟩ | ⟨h4, hs⟩
  · rcases hd with hd | hd | hd
    · exact trailer_set_panics l w q p n V kv vv S kx vx dn h hL s h0 (by omega) hd
    · exact trailer_add_panics l w q p n V kv vv S kx vx dn h hL s h0 (by omega) hd
    · exact trailer_upd_panics l w q p n V kv vv S kx vx dn h hL s h0 (by omega) hd
  · exact trailer_names_panics l w q p n V kv vv S kx vx dn h hL s h2 s.f2.size (Nat.le_refl _) (by cases hg : setGo dn s.f2.size (ns s.f2) [] false with
      | none => rfl
      | some x => rw [hg] at hs; cases hs) h4
def scriptF (dn : Bool) (L : List KVx) (acc : List Ans) : List Step → Option (List Ans × ByteArray × Bool)
  | [] => if L.length ≤ 1099511627775 ∧ RgK L ∧ sizeKV L + 2 ≤ 140737488355328 then some (acc, strOfNums (linesOf L ++ [13, 10]), true) else none
  | s :: r => match stepF dn L s with
    | none => if stepX dn L s = true then some (acc, ⟨#[]⟩, false) else none
    | some ((T, is, P), dn', L') => scriptF dn' L' (acc ++ [⟨T, is, 0, [], P⟩]) r
theorem Stp.below0 {q : Nat} (hq : 0 < q) {l l1 : Nat → Nat} {w w1 : World} {B : Nat} (h : Stp (Tz q) l l1 w w1) (hB : B ≤ w.heap.size) (hl : ∀ b, b < B → l b = 0) (hq2 : q + 3 < 64) : Below B w w1 :=
  ⟨h.os, h.tape, h.output, h.size, fun b hb => h.block b (by omega) (by rw [hl b hb]; unfold Tz; omega)⟩
theorem S_stp {α : Type} {d : Kd α} {e base q : Nat} {l l1 : Nat → Nat} {w w1 : World} {v : Value} {xs : List α} (hq : 0 < q) (hq2 : q + 3 < 64) (h : Kd.S d e w base (fun k => l k = 0) v xs) (s : Stp (Tz q) l l1 w w1) : Kd.S d e w1 base (fun k => l1 k = 0 ∧ k < w.heap.size) v xs := by
  refine Kd.S_mono (Kd.S_step (Kd.S_bound h) (fun k hk hlt => s.block k hlt (by rw [hk.1]; unfold Tz; omega))) (fun k hk => ⟨by rw [s.lab k hk.2.2.1]; exact hk.1, hk.2.2.1⟩)
end Go.Proofs.Ytoimkmoalmmooaa.Own
set_option linter.unusedVariables false
set_option linter.unusedSimpArgs false
namespace Go.Proofs.Ytoimkmoalmmooaa.Own
open Go.RowKit Go.Proofs.YtoimkmoalmmooaaW.PrintWords Go.Proofs.YtoimkmoalmmooaaW.PrintLast Go.Proofs.YtoimkmoalmmooaaW.PrintMore Go.Proofs.Ytoimkmoalmmooaa.Base Go.Proofs.Ytoimkmoalmmooaa.Gv Go.Proofs.Ytoimkmoalmmooaa.Given Go.Proofs.Ytoimkmoalmmooaa.QA Go.Proofs.Ytoimkmoalmmooaa.PrX
def lab1 (p : Nat) : Nat → Nat := fun b => if b = p then 1 else 0
theorem newT (w : World) : TrC (lab1 w.heap.size) (w.alloc (.cells #[.slice none 0 0, .slice none 0 0, .slice none 0 0, .bool false, .bool false] 58)) 1 w.heap.size (.slice none 0 0) 0 [] (.slice none 0 0) [] (.slice none 0 0) [] false :=
  ⟨by omega, by omega, ⟨heap_alloc_new _ _, if_pos rfl⟩, ⟨by omega, by simp, .inl ⟨rfl, rfl, rfl⟩⟩, Bf.nil _ _ _, Bf.nil _ _ _⟩
def MidS (w : World) (dn : Bool) (L : List KVx) (acc : List Ans) (ov : Value) (wr : World) : Prop := ∃ l1 V n S kv kx vv vx, TrC l1 wr 1 w.heap.size V n S kv kx vv vx dn ∧ kvs S n = L ∧ Kd.S k32 32 wr w.heap.size (fun k => l1 k = 0) ov acc ∧ (∀ b, b < w.heap.size → l1 b = 0) ∧ Below w.heap.size w wr
def ScriptT (w : World) (r : List Ans × ByteArray × Bool) (e : Ending) (w' : World) : Prop := ∃ v, e = .returned (.tuple #[v, .string r.2.1, .bool r.2.2]) ∧ Kd.S k32 32 w' w.heap.size (fun _ => True) v r.1 ∧ Below w.heap.size w w'
set_option maxHeartbeats 4000000 in
set_option maxRecDepth 100000 in
theorem script_calls (A0 : Option Addr) (c0 : Nat) (xs : List Step) (r : List Ans × ByteArray × Bool) (w : World) (hr0 : Kd.C k28 w A0 xs.length xs) (hc0 : xs.length ≤ c0) (hN : xs.length ≤ 1000000000) (h : scriptF false [] [] xs = some r) :
    Calls Try.prog 9 #[.slice A0 xs.length c0] w fun e w' => ScriptT w r e w' := by
  have hinfo : (Try.prog.info? 32).map (fun i => (i.zero, i.size, i.bytes)) = some (some (.agg #[.string ⟨#[]⟩, .bool false, .int .i64 0, .slice none 0 0, .slice none 0 0]), 5, 80) := by kernel_rfl
  have hmid : MidS w false [] [] (.slice none 0 0) (w.alloc (.cells #[.slice none 0 0, .slice none 0 0, .slice none 0 0, .bool false, .bool false] 58)) :=
    ⟨lab1 w.heap.size, _, _, _, _, _, _, _, newT w, rfl, Kd.S_nil _ _ _ _ _, fun b hb => if_neg (by omega), (Below.refl _ _).alloc (Nat.le_refl _) _⟩
  obtain ⟨N, hNN⟩ : ∃ n, xs.length = n := ⟨_, rfl⟩
  rw [hNN] at hN hc0 ⊢
  have HNN := Lib.hid hNN
  have HR0 := Lib.hid hr0
  have HMID := Lib.hid hmid
  have HGO := Lib.hid h
  have HI := Lib.hid hinfo
  clear hr0 h hmid hNN hinfo
  go_enter Try.func9, Try.ntmps9
  go_wp2
  go_loopw [6, 15] (fun ov iv wr => ∃ (x : Int) (dn : Bool) (L : List KVx) (acc : List Ans), iv = .int .i64 x ∧ 0 ≤ x ∧ x ≤ (N : Int) ∧ Hid (scriptF dn L acc (xs.drop x.toNat) = some r) ∧ Hid (MidS w dn L acc ov wr) ∧ Hid (acc.length ≤ x.toNat)) (fun _ iv _ => N - (intOf iv).toNat)
  case atStart => exact ⟨0, false, [], [], rfl, by omega, by omega, HGO, HMID, Lib.hid (by simp)⟩
  case round =>
    obtain ⟨x, dn, L, acc, rfl, hx0, hxN, HGO, HMS, HAL⟩ := hrel
    obtain ⟨l1, V, n, S, kv, kx, vv, vx, hT, hkv, hS, hz, hb⟩ := HMS.out
    by_cases hlt : x < (N : Int)
    · obtain ⟨s, r', hdr⟩ : ∃ s r', xs.drop x.toNat = s :: r' := by
        have : x.toNat < xs.length := by have := HNN.out; omega
        exact ⟨_, _, List.drop_eq_getElem_cons this⟩
      have hrd : rd_T28 xs x = s := by
        unfold rd_T28
        have h2 : xs[x.toNat]? = some s := by
          have := congrArg (fun q => q[0]?) hdr
          simpa [List.getElem?_drop] using this
        rw [List.getD_eq_getElem?_getD, h2]; rfl
      have hdr2 : xs.drop (x + 1).toNat = r' := by
        have := congrArg (fun q => q.drop 1) hdr
        simp only [List.drop_drop, List.drop_succ_cons, List.drop_zero] at this
        rw [show (x + 1).toNat = x.toNat + 1 by omega]; exact this
      have hgo := HGO.out
      rw [hdr, scriptF] at hgo
      have hq : x < (xs.length : Int) := by have := HNN.out; omega
      obtain ⟨ad, e0, y0, y1, y2, y3, y4⟩ := at_T28 HR0.out x hx0 hq
      cases e0
      rw [hrd] at y0 y1 y2 y3 y4
      replace y0 := (hb.cell (World.block_lt_of_cell? w _ y0)).trans y0
      replace y1 := (hb.cell (World.block_lt_of_cell? w _ y1)).trans y1
      replace y2 := (hb.cell (World.block_lt_of_cell? w _ y2)).trans y2
      replace y3 := (hb.cell (World.block_lt_of_cell? w _ y3)).trans y3
      replace y4 := (hb.cell (World.block_lt_of_cell? w _ y4)).trans y4
      -- the step's box
      obtain ⟨W1, hW1⟩ : ∃ X, wr.alloc (.cells #[.int .i64 s.f0, .string s.f1, .string s.f2, .int .i64 s.f3, .int .i64 s.f4] 28) = X := ⟨_, rfl⟩
      have hb1 : Below wr.heap.size wr W1 := by rw [← hW1]; exact (Below.refl _ _).alloc (Nat.le_refl _) _
      have hs1 : W1.heap.size = wr.heap.size + 1 := by rw [← hW1]; simp
      have st1 := Stp.of_below hb1 (Tz 1) l1 0
      have hT1 := hT.keep (Stp.of_below hb1 (fun _ => False) l1 0) (fun _ k => k.elim)
      have hS1 := S_stp (by omega) (by omega) hS st1
      cases hst : stepF dn L s with
      | none =>
        rw [hst] at hgo
        by_cases hxx : stepX dn L s = true
        · have hgo2 : some (acc, (⟨#[]⟩ : ByteArray), false) = some r := by
            have : (if stepX dn L s = true then some (acc, (⟨#[]⟩ : ByteArray), false) else none) = some r := hgo
            rw [if_pos hxx] at this; exact this
          injection hgo2 with hgo2
          subst hgo2
          have hcall := trailer_panics _ W1 1 w.heap.size n V kv vv S kx vx dn hT1 s (by rw [hkv]; exact hxx)
          have HW1 := Lib.hid hW1
          have HS1 := Lib.hid hs1
          have HB := Lib.hid hb
          have HZ := Lib.hid hz
          have HSS := Lib.hid hS1
          have HCALL := Lib.hid hcall
          clear hT hkv hS hz hb hdr hrd hdr2 hgo hst hq hb1 hs1 st1 hT1 hS1 hcall hW1 HGO HMS hxx
          go_wp2_with (
            go_at_call 26
            rw [HW1.out]
            refine HCALL.out.mono ?_
            rintro e w4 ⟨rfl, l3, t4⟩
            have hb4 : Below w.heap.size W1 w4 := t4.below0 (by omega) (by have := HS1.out; have := HB.out.size; omega) (fun b hb => (ext_old l1 (by have := HB.out.size; omega)).trans (HZ.out b hb)) (by omega)
            have hb1 : Below wr.heap.size wr W1 := by rw [← HW1.out]; exact (Below.refl _ _).alloc (Nat.le_refl _) _
            have hbw : Below w.heap.size w w4 := (HB.out.trans (below_weaken_t HB.out.size hb1)).trans hb4
            have hSw : Kd.S k32 32 w4 w.heap.size (fun k => ext l1 wr.heap.size 0 k = 0 ∧ k < wr.heap.size) u6 acc := Kd.S_step HSS.out (fun k hk hlt => t4.block k hlt (by rw [hk.1]; unfold Tz; omega))
            have TB := Lib.hid hbw
            have TS := Lib.hid hSw
            clear t4 hb4 hb1 hbw hSw)
          go_ret3
          exact ⟨u6, by simp [Act.put], Kd.S_mono (Kd.S_below TS.out ((Below.refl _ _).alloc (Nat.le_refl _) _)) (fun _ _ => trivial), TB.out.trans (below_weaken_t TB.out.size ((Below.refl _ _).alloc (Nat.le_refl _) _))⟩
        · have : (if stepX dn L s = true then some (acc, (⟨#[]⟩ : ByteArray), false) else none) = some r := hgo
          rw [if_neg hxx] at this; cases this
      | some y =>
      obtain ⟨⟨T, is, P⟩, dn', L'⟩ := y
      rw [hst] at hgo
      have hgo2 : scriptF dn' L' (acc ++ [⟨T, is, 0, [], P⟩]) r' = some r := hgo
      have hcall := trailer_calls _ W1 1 w.heap.size n V kv vv S kx vx dn hT1 s _ (by rw [hkv]; exact hst)
      have HW1 := Lib.hid hW1
      have HS1 := Lib.hid hs1
      have HB := Lib.hid hb
      have HZ := Lib.hid hz
      have HSS := Lib.hid hS1
      have HCALL := Lib.hid hcall
      have HGO2 := Lib.hid hgo2
      have HDR := Lib.hid hdr2
      have HST1 := Lib.hid st1
      clear hT hkv hS hz hb hdr hrd hdr2 hgo hst hgo2 hq hb1 hs1 st1 hT1 hS1 hcall hW1 HGO HMS
      have hwS := (Kd.S_R HSS.out).1
      have HOWN := Lib.hid (show ∀ k, u6.ownBlock = some k → ext l1 wr.heap.size 0 k = 0 ∧ k < wr.heap.size from fun k hk => hwS k hk)
      clear hwS
      go_wp2_with (first
        | (go_at_call 26
           rw [HW1.out]
           refine HCALL.out.mono ?_
           rintro e w4 ⟨l3, V1, n1, S1, kv1, kx1, vv1, vx1, PV, rfl, t1, t2, t3, t4⟩
           have t3 : Kd.R k34 34 w4 W1.heap.size (fun k => l3 k = 0) PV P := t3
           obtain ⟨PA, pc, rfl⟩ := Kd.R_slice t3
           obtain ⟨PN, hPN⟩ : ∃ k, P.length = k := ⟨_, rfl⟩
           rw [hPN] at t3
           simp only
           rw [hPN]
           have hb4 : Below w.heap.size W1 w4 := t4.below0 (by omega) (by have := HS1.out; have := HB.out.size; omega) (fun b hb => (ext_old l1 (by have := HB.out.size; omega)).trans (HZ.out b hb)) (by omega)
           have hb1 : Below wr.heap.size wr W1 := by rw [← HW1.out]; exact (Below.refl _ _).alloc (Nat.le_refl _) _
           have hbw : Below w.heap.size w w4 := (HB.out.trans (below_weaken_t HB.out.size hb1)).trans hb4
           have hSw : Kd.S k32 32 w4 w.heap.size (fun k => ext l1 wr.heap.size 0 k = 0 ∧ k < wr.heap.size) u6 acc := Kd.S_step HSS.out (fun k hk hlt => t4.block k hlt (by rw [hk.1]; unfold Tz; omega))
           have hlab : ∀ k, k < wr.heap.size → l3 k = ext l1 wr.heap.size 0 k := fun k hk => t4.lab k (by have := HS1.out; omega)
           have T1 := Lib.hid t1
           have T2 := Lib.hid t2
           have T3 := Lib.hid t3
           have TB := Lib.hid hbw
           have TS := Lib.hid hSw
           have TL := Lib.hid hlab
           have TZ := Lib.hid (show w.heap.size ≤ wr.heap.size ∧ wr.heap.size ≤ W1.heap.size ∧ W1.heap.size ≤ w4.heap.size from ⟨HB.out.size, by have := HS1.out; omega, hb4.size⟩)
           clear t1 t2 t3 t4 hb4 hb1 hbw hSw hlab hPN)
        | (at_builtin
           obtain ⟨W5, hW5⟩ : ∃ X, w4.alloc (.cells #[.string T, .bool is, .int .i64 0, .slice none 0 0, .slice PA PN pc] 32) = X := ⟨_, rfl⟩
           rw [hW5]
           have b5 : Below w4.heap.size w4 W5 := by rw [← hW5]; exact (Below.refl _ _).alloc (Nat.le_refl _) _
           have s5 : W5.heap.size = w4.heap.size + 1 := by rw [← hW5]; simp
           have z5 := TZ.out
           have hR4 := Kd.R_mono (Kd.R_bound T3.out) (fun k hk => (⟨(ext_old l3 hk.2.2.1).trans hk.1, Nat.le_trans z5.2.1 hk.2.1⟩ : ext l3 w4.heap.size 0 k = 0 ∧ wr.heap.size ≤ k))
           have hR5 := Kd.R_lower (base' := w.heap.size) (Kd.R_below hR4 b5) (by omega)
           have hS5 := Kd.S_mono (Kd.S_below TS.out b5) (fun k hk => (⟨by rw [ext_old l3 (by omega), TL.out k hk.2]; exact hk.1, fun h2 => by omega⟩ : ext l3 w4.heap.size 0 k = 0 ∧ ¬ (ext l3 w4.heap.size 0 k = 0 ∧ wr.heap.size ≤ k)))
           have hB5 : Below w.heap.size w W5 := TB.out.trans (below_weaken_t (by omega) b5)
           have hal := HAL.out
           refine Kd.S_append k32 (w0 := w) w.heap.size rfl (.tmp 28) (.tmp 30) 24 32 (.agg #[.string ⟨#[]⟩, .bool false, .int .i64 0, .slice none 0 0, .slice none 0 0]) 80 rfl Try.underlying24 HI.out rfl (by decide) (by omega) u6 acc (⟨T, is, 0, [], P⟩ : Ans) [.string T, .bool is, .int .i64 0, .slice none 0 0, .slice PA PN pc] (fun k => ext l3 w4.heap.size 0 k = 0) (fun k => ext l3 w4.heap.size 0 k = 0 ∧ wr.heap.size ≤ k) (by first | rfl | (go_simp; done)) (by rw [s5]; first | rfl | (go_simp; done)) (k32_mkM _ _ _ _ (Kd.R_nil _ _ _ _ _) hR5) (fun k hk => ⟨hk.1, fun e => by have := HOWN.out k e.symm; omega⟩) (fun k hk => ext_new _ (by omega)) hS5 hB5 (by omega) (by omega) ?_
           intro v6 w6 hr6 hb6 hg6 hat6
           have hT5 := T1.out.keep (Stp.of_below b5 (fun _ => False) l3 0) (fun _ k => k.elim)
           have hs6 : Stp (· = 0) (ext l3 w4.heap.size 0) (ext l3 w4.heap.size 0) W5 w6 := ⟨hg6.os, hg6.tape, hg6.output, hg6.size, fun _ _ => rfl, fun b hb hf => hg6.block b hb (fun e => hf (by
             obtain ⟨o1, o2⟩ := HOWN.out b e.symm
             rw [ext_old l3 (by omega), TL.out b o2]; exact o1))⟩
           have hT6 := hT5.keep hs6 (fun lab e k => by subst e; unfold Tz at k; omega)
           have NS := Lib.hid (show MidS w dn' L' (acc ++ [⟨T, is, 0, [], P⟩]) v6 w6 from ⟨_, _, _, _, _, _, _, _, hT6, T2.out, hr6, fun b hb => by rw [ext_old l3 (by omega), TL.out b (by omega), ext_old l1 (by omega)]; exact HZ.out b hb, hb6⟩)
           clear hT5 hs6 hT6 hr6 hb6 hg6 hat6 hS5 hB5 hR5 hR4 b5 s5 z5 hal hW5))
      go_roundw
      case rel =>
        exact ⟨x + 1, dn', L', _, by go_num, by omega, by omega, Lib.hid (by rw [HDR.out]; exact HGO2.out), NS, Lib.hid (by rw [List.length_append]; have := HAL.out; simp; omega)⟩
      case measure => simp [intOf]; omega
    · obtain rfl : x = (N : Int) := by omega
      have hdr : xs.drop (N : Int).toNat = [] := List.drop_eq_nil_of_le (by have := HNN.out; omega)
      have hgo := HGO.out
      rw [hdr, scriptF] at hgo
      by_cases hg : L.length ≤ 1099511627775 ∧ RgK L ∧ sizeKV L + 2 ≤ 140737488355328
      · rw [if_pos hg] at hgo
        injection hgo with hgo
        subst hgo
        have hlen := kvs_length hT.2.2.2.1.le
        rw [← hkv, hlen] at hg
        obtain ⟨TX, hTX⟩ : ∃ y, strOfNums (linesOf L ++ [13, 10]) = y := ⟨_, rfl⟩
        have HTX := Lib.hid hTX
        have HTY := Lib.hid (show strOfNums (linesOf (kvs S n) ++ [13, 10]) = TX by rw [hkv]; exact hTX)
        have HHM : Hid (∀ m, Calls Try.prog 27 #[.pointer (some ⟨w.heap.size, 0, none⟩)] (wr.drewN m) fun e w' => HeadT l1 (wr.drewN m) 1 w.heap.size n V kv S kx dn (linesOf (kvs S n) ++ [13, 10]) e w') := Lib.hid (fun m => tHeader_calls l1 _ 1 w.heap.size n V kv vv S kx vx dn (hT.keep (drew_stp (fun _ => False) l1 wr m) (fun _ k => k.elim)) hg.1 hg.2.1 hg.2.2)
        have HSD := Lib.hid hS
        have HBD := Lib.hid hb
        have HZ := Lib.hid hz
        have q1 : ((N : Int) < (N : Int)) = False := by simp
        clear hT hkv hS hz hb hdr hg hlen hTX HMS HGO
        go_wp2
        go_region_with (
          go_simp
          go_at_call 27
          refine (HHM.out _).mono ?_
          rintro e w4 ⟨l4, A1, N1, c1, rfl, hN1, hT4, st4⟩
          have hcv := conv_read (c := c1) hT4.2.2.2.2.2.reads
          rw [← hN1] at hcv
          rw [HTY.out] at hcv
          have ST4 := Lib.hid st4
          clear hN1 hT4 st4)
        all_goals (
          go_wp2
          go_ret3
          have st : Stp (Tz 1) l1 l4 wr _ := (drew_stp (Tz 1) l1 wr _).trans ST4.out
          have hb4 := st.below0 (by omega) HBD.out.size HZ.out (by omega)
          have hS4 := Kd.S_mono (Kd.S_step HSD.out (fun k hk hlt => st.block k hlt (by rw [hk]; unfold Tz; omega))) (fun _ _ => trivial)
          exact ⟨u6, by simp [Act.put, HTX.out], hS4, HBD.out.trans hb4⟩)
      · rw [if_neg hg] at hgo; cases hgo
end Go.Proofs.Ytoimkmoalmmooaa.Own
namespace Go.Proofs.Ytoimkmoalmmooaa.Given
open Go.RowKit Go.Proofs.YtoimkmoalmmooaaW.PrintWords Go.Proofs.YtoimkmoalmmooaaW.PrintLast Go.Proofs.YtoimkmoalmmooaaW.PrintMore Go.Proofs.Ytoimkmoalmmooaa.Base Go.Proofs.Ytoimkmoalmmooaa.QA
def impl_TrailerScript.f (l : List S28) : Option (List S32 × ByteArray × Bool) := if l.length ≤ 1000000000 then Own.scriptF false [] [] l else none
theorem impl_TrailerScript.calls (A0 : Option Addr) (c0 : Nat) (l : List S28) (r1 : List S32) (r2 : ByteArray) (r3 : Bool) (w : World) (hr0 : Kd.C k28 w A0 l.length l) (hc0 : l.length ≤ c0) (h : impl_TrailerScript.f l = some (r1, r2, r3)) :
    Calls Try.prog 9 #[.slice A0 l.length c0] w fun e w' => ∃ v, e = .returned (.tuple #[v, .string r2, .bool r3]) ∧ Kd.S k32 32 w' w.heap.size (fun _ => True) v r1 ∧ Below w.heap.size w w' := by
  unfold impl_TrailerScript.f at h
  by_cases hl : l.length ≤ 1000000000
  · rw [if_pos hl] at h
    exact Own.script_calls A0 c0 l (r1, r2, r3) w hr0 hc0 hl h
  · rw [if_neg hl] at h; cases h
end Go.Proofs.Ytoimkmoalmmooaa.Given
set_option linter.unusedVariables false
set_option linter.unusedSimpArgs false
namespace Go.Proofs.Ytoimkmoalmmooaa.Own
open Go.RowKit Go.Proofs.YtoimkmoalmmooaaW.PrintWords Go.Proofs.YtoimkmoalmmooaaW.PrintLast Go.Proofs.YtoimkmoalmmooaaW.PrintMore Go.Proofs.Ytoimkmoalmmooaa.Base Go.Proofs.Ytoimkmoalmmooaa.Gv Go.Proofs.Ytoimkmoalmmooaa.Given Go.Proofs.Ytoimkmoalmmooaa.QA
theorem badK_x {K : List Int} (h : (K.map o32).headD 0 = 120) : badK K = false := bad_x _ h
theorem stepF_4 (dn : Bool) (L : List KVx) (s : Step) (hd : s.f0 = 4) (hL : L.length ≤ 1000000) (h1 : s.f1.size ≤ 1000000) (h2 : s.f2.size ≤ 1000000) : stepF dn L s = (setGo dn s.f2.size (ns s.f2) [] false).map fun r => ((⟨#[]⟩, !r.2, []), dn, r.1) := by
  unfold stepF
  rw [if_neg (by omega), if_neg (by omega), if_neg (by omega), if_neg (by omega), if_pos hd]
theorem stepF_3 (dn : Bool) (L : List KVx) (s : Step) (hd : s.f0 = 3) (hL : L.length ≤ 1000000) (h1 : s.f1.size ≤ 1000000) (h2 : s.f2.size ≤ 1000000) : stepF dn L s = some ((strOfNums ((getKV (nkd dn (ns s.f1)) L).getD []), false, []), dn, L) := by
  unfold stepF
  rw [if_neg (by omega), if_neg (by omega), if_neg (by omega), if_pos hd]
theorem stepF_1 (dn : Bool) (L : List KVx) (s : Step) (hd : s.f0 = 1) (hL : L.length ≤ 1000000) (h0 : s.f1.size ≠ 0) (h1 : s.f1.size ≤ 1000000) (h2 : s.f2.size ≤ 1000000) (hb : badK (nkd dn (ns s.f1)) = false) : stepF dn L s = some ((⟨#[]⟩, true, []), dn, L ++ [⟨nkd dn (ns s.f1), ns s.f2, false⟩]) := by
  unfold stepF
  rw [if_neg (by omega), if_pos (by omega), if_neg h0, if_neg (show ¬ s.f0 = 9 by omega), if_neg (by rw [hb]; decide), if_neg (show ¬ s.f0 = 0 by omega), if_pos hd]
theorem stepF_7 (dn : Bool) (L : List KVx) (s : Step) (hd : s.f0 = 7) (hL : L.length ≤ 1000000) (h1 : s.f1.size ≤ 1000000) (h2 : s.f2.size ≤ 1000000) : stepF dn L s = some ((⟨#[]⟩, false, L.map toP), dn, L) := by
  unfold stepF
  rw [if_neg (by omega), if_neg (by omega), if_neg (by omega), if_neg (by omega), if_neg (by omega), if_neg (by omega), if_neg (by omega), if_pos hd]
end Go.Proofs.Ytoimkmoalmmooaa.Own
set_option linter.unusedVariables false
set_option linter.unusedSimpArgs false
namespace Go.Proofs.Ytoimkmoalmmooaa.Own
open Go.RowKit Go.Proofs.YtoimkmoalmmooaaW.PrintWords Go.Proofs.YtoimkmoalmmooaaW.PrintLast Go.Proofs.YtoimkmoalmmooaaW.PrintMore Go.Proofs.Ytoimkmoalmmooaa.Base Go.Proofs.Ytoimkmoalmmooaa.Gv Go.Proofs.Ytoimkmoalmmooaa.Given Go.Proofs.Ytoimkmoalmmooaa.QA
def runF (dn : Bool) (L : List KVx) : List Step → Option (List Ans × Option (Bool × List KVx))
  | [] => some ([], some (dn, L))
  | s :: r => match stepF dn L s with
    | none => if stepX dn L s = true then some ([], none) else none
    | some ((T, is, P), dn', L') => (runF dn' L' r).map fun x => (⟨T, is, 0, [], P⟩ :: x.1, x.2)
def endF (acc : List Ans) : Option (Bool × List KVx) → Option (List Ans × ByteArray × Bool)
  | none => some (acc, ⟨#[]⟩, false)
  | some (_, L) => if L.length ≤ 1099511627775 ∧ RgK L ∧ sizeKV L + 2 ≤ 140737488355328 then some (acc, strOfNums (linesOf L ++ [13, 10]), true) else none
theorem script_run : ∀ (l : List Step) (dn : Bool) (L : List KVx) (acc : List Ans), scriptF dn L acc l = (runF dn L l).bind fun x => endF (acc ++ x.1) x.2
  | [], dn, L, acc => by
    show _ = endF (acc ++ []) (some (dn, L))
    rw [List.append_nil]; rfl
  | s :: r, dn, L, acc => by
    rw [scriptF, runF]
    cases h : stepF dn L s with
    | none =>
      show (if stepX dn L s = true then some (acc, (⟨#[]⟩ : ByteArray), false) else none) = Option.bind (if stepX dn L s = true then some ([], none) else none) _
      by_cases hx : stepX dn L s = true
      · rw [if_pos hx, if_pos hx]
        show _ = endF (acc ++ []) none
        rw [List.append_nil]; rfl
      · rw [if_neg hx, if_neg hx]; rfl
    | some y =>
      obtain ⟨⟨T, is, P⟩, dn', L'⟩ := y
      show scriptF dn' L' (acc ++ [⟨T, is, 0, [], P⟩]) r = ((runF dn' L' r).map _).bind _
      rw [script_run r dn' L' (acc ++ [(⟨T, is, 0, [], P⟩ : Ans)])]
      cases runF dn' L' r with
      | none => rfl
      | some x => show endF _ _ = endF _ _; rw [List.append_assoc]; rfl
theorem run_append : ∀ (l m : List Step) (dn : Bool) (L : List KVx), runF dn L (l ++ m) = (runF dn L l).bind fun x => match x.2 with
    | none => some (x.1, none)
    | some (dn', L') => (runF dn' L' m).map fun y => (x.1 ++ y.1, y.2)
  | [], m, dn, L => by
    show runF dn L m = (runF dn L m).map _
    cases runF dn L m <;> rfl
  | s :: r, m, dn, L => by
    rw [List.cons_append, runF, runF]
    cases h : stepF dn L s with
    | none =>
      show (if stepX dn L s = true then some (([] : List Ans), none) else none) = Option.bind (if stepX dn L s = true then some ([], none) else none) _
      by_cases hx : stepX dn L s = true
      · rw [if_pos hx]; rfl
      · rw [if_neg hx]; rfl
    | some y =>
      obtain ⟨⟨T, is, P⟩, dn', L'⟩ := y
      show (runF dn' L' (r ++ m)).map _ = ((runF dn' L' r).map _).bind _
      rw [run_append r m dn' L']
      cases runF dn' L' r with
      | none => rfl
      | some x =>
        obtain ⟨az, st⟩ := x
        cases st with
        | none => rfl
        | some z =>
          obtain ⟨dn2, L2⟩ := z
          show ((runF dn2 L2 m).map _).map _ = (runF dn2 L2 m).map _
          cases runF dn2 L2 m <;> rfl
def Small (b : Nat) (L : List KVx) : Prop := L.length ≤ b ∧ ∀ x ∈ L, x.k.length ≤ 200 ∧ x.v.length ≤ 200 ∧ ∀ y ∈ x.k, 0 ≤ y ∧ y ≤ 255
theorem Small.mono {b c : Nat} {L : List KVx} (h : Small b L) (hc : b ≤ c) : Small c L := ⟨Nat.le_trans h.1 hc, h.2⟩
theorem Small.rg {b : Nat} {L : List KVx} (h : Small b L) : RgK L := fun x hx y hy => (h.2 x hx).2.2 y hy
theorem size_le : ∀ (L : List KVx), (∀ x ∈ L, x.k.length ≤ 200 ∧ x.v.length ≤ 200) → sizeKV L ≤ L.length * 404
  | [], _ => by simp [sizeKV]
  | x :: t, h => by
    have h1 := h x (by simp)
    have h2 := size_le t (fun y hy => h y (List.mem_cons_of_mem _ hy))
    rw [sizeKV_cons, List.length_cons]
    omega
theorem Small.size {b : Nat} {L : List KVx} (h : Small b L) : sizeKV L ≤ b * 404 :=
  Nat.le_trans (size_le L (fun x hx => ⟨(h.2 x hx).1, (h.2 x hx).2.1⟩)) (Nat.mul_le_mul_right _ h.1)
theorem set_small {b : Nat} {L : List KVx} {k v : List Int} (h : Small b L) (hk : k.length ≤ 200 ∧ v.length ≤ 200 ∧ ∀ y ∈ k, 0 ≤ y ∧ y ≤ 255) : Small (b + 1) (setKV k v L) := by
  induction L generalizing b with
  | nil => exact ⟨by simp [setKV], fun x hx => by simp [setKV] at hx; subst hx; exact hk⟩
  | cons z t ih =>
    have hz := h.2 z (by simp)
    have ht : Small (b - 1) t := ⟨by have := h.1; simp at this; omega, fun x hx => h.2 x (List.mem_cons_of_mem _ hx)⟩
    have hb : 1 ≤ b := by have := h.1; simp at this; omega
    unfold setKV
    split
    · refine ⟨by have := h.1; simp at this ⊢; omega, fun x hx => ?_⟩
      rcases List.mem_cons.1 hx with rfl | hx
      · exact ⟨hz.1, hk.2.1, hz.2.2⟩
      · exact ht.2 x hx
    · obtain ⟨i1, i2⟩ := ih ht
      refine ⟨by simp; omega, fun x hx => ?_⟩
      rcases List.mem_cons.1 hx with rfl | hx
      · exact hz
      · exact i2 x hx
theorem end_told {st : Option (Bool × List KVx)} {b : Nat} (hb : b ≤ 1000000) (h : ∀ dn L, st = some (dn, L) → Small b L) : ∃ t, ∀ acc, endF acc st = some (acc, t, st.isSome) := by
  cases st with
  | none => exact ⟨_, fun acc => rfl⟩
  | some y =>
    obtain ⟨dn, L⟩ := y
    have hL := h dn L rfl
    have := hL.size
    have := hL.1
    exact ⟨_, fun acc => if_pos ⟨by omega, hL.rg, by omega⟩⟩
end Go.Proofs.Ytoimkmoalmmooaa.Own
set_option linter.unusedVariables false
set_option linter.unusedSimpArgs false
namespace Go.Proofs.Ytoimkmoalmmooaa.Own
open Go.RowKit Go.Proofs.YtoimkmoalmmooaaW.PrintWords Go.Proofs.YtoimkmoalmmooaaW.PrintLast Go.Proofs.YtoimkmoalmmooaaW.PrintMore Go.Proofs.Ytoimkmoalmmooaa.Base Go.Proofs.Ytoimkmoalmmooaa.Gv Go.Proofs.Ytoimkmoalmmooaa.Given Go.Proofs.Ytoimkmoalmmooaa.QA
theorem eqB_self (k : List Int) : eqB k k = true := by unfold eqB; exact beq_self_eq_true _
theorem script_cons {dn : Bool} {L : List KVx} {acc : List Ans} {s : Step} {r : List Step} {T : ByteArray} {is : Bool} {P : List Pair} {dn' : Bool} {L' : List KVx} (h : stepF dn L s = some ((T, is, P), dn', L')) : scriptF dn L acc (s :: r) = scriptF dn' L' (acc ++ [⟨T, is, 0, [], P⟩]) r := by
  rw [scriptF, h]
end Go.Proofs.Ytoimkmoalmmooaa.Own
set_option linter.unusedVariables false
namespace Go.Proofs.Ytoimkmoalmmooaa.Pure
open Go.RowKit Go.Proofs.Ytoimkmoalmmooaa.QA Go.Proofs.YtoimkmoalmmooaaW.PrintWords Go.Proofs.YtoimkmoalmmooaaW.PrintLast Go.Proofs.YtoimkmoalmmooaaW.PrintMore Go.Proofs.Ytoimkmoalmmooaa.Base Go.Proofs.Ytoimkmoalmmooaa.Given Go.Proofs.Ytoimkmoalmmooaa.Gv Go.Proofs.Ytoimkmoalmmooaa.Own
theorem name_x {s : ByteArray} (h : isName s = true) : 2 ≤ s.size ∧ s.size ≤ 60 ∧ (∀ x ∈ ns s, x ≠ 44 ∧ x ≠ 32) ∧ ((ns s).map o32).headD 0 = 120 := by
  have hm := isName_mem h
  refine ⟨hm.1, hm.2.1, fun x hx => ?_, ?_⟩
  · have := hm.2.2 x hx
    unfold nB at this
    simp only [Bool.or_eq_true, decide_eq_true_eq] at this
    rcases this with rfl | hw
    · decide
    · exact ⟨(wB_ne hw).2.2.1, (wB_ne hw).1⟩
  · unfold isName at h
    simp only [Bool.and_eq_true, decide_eq_true_eq] at h
    rw [← h.1.1.2, show bt s 0 = (ns s).getD 0 0 from bt_ns s 0]
    cases hn : ns s with
    | nil => have := ns_length s; rw [hn] at this; simp at this; omega
    | cons a t => rfl
theorem low_is (s : ByteArray) (h : s.size ≤ 4611686018427387904) : laws_low.f s = some (strOfNums ((ns s).map lo)) := if_pos h
theorem lo_row (s : ByteArray) : ∀ x ∈ (ns s).map lo, 0 ≤ x ∧ x ≤ 255 := fun x hx => by
  obtain ⟨y, hy, rfl⟩ := List.mem_map.1 hx
  exact lo_range (ns_range s y hy)
theorem nk_row (s : ByteArray) : ∀ x ∈ nk (ns s), 0 ≤ x ∧ x ≤ 255 := nk_range (ns s) (fun x h => ns_range s x h)
theorem self_str (s : ByteArray) : strOfNums (ns s) = s := ns_inj (ns_strOfNums (fun x hx => ns_range s x hx))
theorem lo_up (x : Int) : lo (Gv.up x) = lo x := by
  unfold Gv.up lo
  (repeat' split) <;> omega
theorem nkTail_map_lo : ∀ l : List Int, (nkTail l).map lo = l.map lo
  | [] => rfl
  | [x] => by
    unfold nkTail
    split
    · rename_i h; subst h; rfl
    · simp [lo_lo]
  | x :: y :: l => by
    unfold nkTail
    split
    · rename_i h; subst h; simp [lo_up, nkTail_map_lo l]
    · have := nkTail_map_lo (y :: l)
      simp only [List.map_cons] at this
      simp only [List.map_cons, this, lo_lo]
theorem nk_map_lo (l : List Int) : (nk l).map lo = l.map lo := by
  cases l <;> simp [nk, nkTail_map_lo, lo_up]
theorem script_is {l : List Step} {r : List Ans × ByteArray × Bool} (hl : l.length ≤ 1000000000) (h : scriptF false [] [] l = some r) : impl_TrailerScript.f l = some r := by
  unfold impl_TrailerScript.f
  rw [if_pos hl]; exact h
def forbL : List (List Int) := [[99, 111, 110, 116, 101, 110, 116, 45, 108, 101, 110, 103, 116, 104], [116, 114, 97, 110, 115, 102, 101, 114, 45, 101, 110, 99, 111, 100, 105, 110, 103], [104, 111, 115, 116], [116, 114, 97, 105, 108, 101, 114], [99, 111, 110, 116, 101, 110, 116, 45, 116, 121, 112, 101], [99, 111, 110, 116, 101, 110, 116, 45, 101, 110, 99, 111, 100, 105, 110, 103], [99, 111, 110, 116, 101, 110, 116, 45, 114, 97, 110, 103, 101], [97, 117, 116, 104, 111, 114, 105, 122, 97, 116, 105, 111, 110]]
def forbOf (s : ByteArray) : Bool := forbL.any fun c => decide ((ns s).map lo = c)
theorem lit_is (t : ByteArray) (c : List UInt8) : t.toList = c ↔ ns t = c.map fun x => (x.toNat : Int) := by
  have hf : ∀ x y : UInt8, (x.toNat : Int) = (y.toNat : Int) → x = y := fun x y e => UInt8.toNat_inj.1 (by omega)
  rw [Lib.toList_data]
  exact ⟨fun e => by rw [← e]; rfl, fun e => (List.map_inj_right hf).1 e⟩
theorem or_step {t : ByteArray} {c : List UInt8} {m d : List Int} {X : Option Bool} {b : Bool} (e : ns t = m) (hc : (c.map fun x => (x.toNat : Int)) = d) (h : X = some b) : (if t.toList = c then some true else X) = some (decide (m = d) || b) := by
  by_cases hk : t.toList = c
  · rw [if_pos hk, decide_eq_true (by rw [← e, ← hc]; exact (lit_is t c).1 hk)]; rfl
  · rw [if_neg hk, decide_eq_false (fun g => hk ((lit_is t c).2 (by rw [e, g, hc]))), h]; rfl
theorem forb_is (s : ByteArray) (h : s.size ≤ 4611686018427387904) : laws_forbidden.f s = some (forbOf s) := by
  unfold laws_forbidden.f
  rw [low_is s h, Option.bind_some]
  have e := ns_strOfNums (lo_row s)
  exact or_step e (by decide) (or_step e (by decide) (or_step e (by decide) (or_step e (by decide) (or_step e (by decide) (or_step e (by decide) (or_step e (by decide) (or_step e (by decide) rfl)))))))
theorem forb_bad (s : ByteArray) (h : forbOf s = true) : badM ((ns s).map o32) = true := by
  unfold forbOf at h
  obtain ⟨c, hc, e⟩ := List.any_eq_true.1 h
  rw [← map_o32_lo (ns s) (fun x hx => ns_range s x hx), of_decide_eq_true e]
  have k : ∀ c ∈ forbL, badM (c.map o32) = true := by decide +kernel
  exact k c hc
theorem name_good (s : ByteArray) (h : isName s = true) : badM ((ns s).map o32) = false := by
  have h0 := (isName_mem h).1
  refine bad_x _ ?_
  unfold isName at h
  simp only [Bool.and_eq_true, decide_eq_true_eq] at h
  rw [← h.1.1.2, show bt s 0 = (ns s).getD 0 0 from bt_ns s 0]
  cases hn : ns s with
  | nil => have := ns_length s; rw [hn] at this; simp at this; omega
  | cons a t => rfl
theorem bad_is (s : ByteArray) (h : isName s = true ∨ forbOf s = true) : badM ((ns s).map o32) = forbOf s := by
  cases hf : forbOf s
  · rcases h with h | h
    · exact name_good s h
    · rw [h] at hf; cases hf
  · exact forb_bad s hf
theorem nk_map_o32 (s : ByteArray) : (nk (ns s)).map o32 = (ns s).map o32 := by
  rw [← map_o32_lo (nk (ns s)) (nk_row s), nk_map_lo, map_o32_lo (ns s) (fun x hx => ns_range s x hx)]
theorem badK_is (dn : Bool) (s : ByteArray) (h : isName s = true ∨ forbOf s = true) : badK (nkd dn (ns s)) = forbOf s := by
  unfold badK
  have : (nkd dn (ns s)).map o32 = (ns s).map o32 := by
    cases dn with
    | true => rfl
    | false => exact nk_map_o32 s
  rw [this]
  exact bad_is s h
end Go.Proofs.Ytoimkmoalmmooaa.Pure
set_option linter.unusedVariables false
namespace Go.Proofs.Ytoimkmoalmmooaa.Pure
open Go.RowKit Go.Proofs.Ytoimkmoalmmooaa.QA Go.Proofs.YtoimkmoalmmooaaW.PrintWords Go.Proofs.YtoimkmoalmmooaaW.PrintLast Go.Proofs.YtoimkmoalmmooaaW.PrintMore Go.Proofs.Ytoimkmoalmmooaa.Base Go.Proofs.Ytoimkmoalmmooaa.Given Go.Proofs.Ytoimkmoalmmooaa.Gv Go.Proofs.Ytoimkmoalmmooaa.Own
def okKey (K : List Int) : Prop := K ≠ [] ∧ ∀ x ∈ K, x ≠ 44 ∧ x ≠ 32
theorem name_key {s : ByteArray} (h : isName s = true ∨ forbOf s = true) : okKey (ns s) ∧ s.size ≤ 60 := by
  rcases h with h | h
  · obtain ⟨h1, h2, h3, _⟩ := name_x h
    exact ⟨⟨fun e => by have := ns_length s; rw [e] at this; simp at this; omega, h3⟩, h2⟩
  · unfold forbOf at h
    obtain ⟨c, hc, e⟩ := List.any_eq_true.1 h
    have e := of_decide_eq_true e
    have k : ∀ c ∈ forbL, c.length ≤ 60 ∧ c ≠ [] ∧ ∀ x ∈ c, x ≠ 44 ∧ x ≠ 32 := by decide +kernel
    obtain ⟨k1, k2, k3⟩ := k c hc
    have hl : (ns s).length = c.length := by rw [← e, List.length_map]
    refine ⟨⟨fun e' => ?_, fun x hx => ?_⟩, by rw [← ns_length, hl]; exact k1⟩
    · rw [e'] at hl
      exact k2 (List.length_eq_zero_iff.1 hl.symm)
    · have hm : lo x ∈ c := by rw [← e]; exact List.mem_map.2 ⟨x, hx, rfl⟩
      have := k3 _ hm
      unfold lo at this
      split at this <;> omega
theorem add_get_script : ∃ T, scriptF false [] [] [⟨1, ⟨#[120, 45, 97]⟩, ⟨#[98]⟩, 0, 0⟩, ⟨3, ⟨#[88, 45, 65]⟩, ⟨#[]⟩, 0, 0⟩] = some ([⟨⟨#[]⟩, true, 0, [], []⟩, ⟨⟨#[98]⟩, false, 0, [], []⟩], T, true) := by
  have hk : ns (⟨#[88, 45, 65]⟩ : ByteArray) = [88, 45, 65] := by decide
  have hk2 : ns (⟨#[120, 45, 97]⟩ : ByteArray) = [120, 45, 97] := by decide
  have hb : ns (⟨#[98]⟩ : ByteArray) = [98] := by decide
  have hn : nk [88, 45, 65] = [88, 45, 65] := by decide
  have hn2 : nk [120, 45, 97] = [88, 45, 65] := by decide
  have e1 : stepF false [] ⟨1, ⟨#[120, 45, 97]⟩, ⟨#[98]⟩, 0, 0⟩ = some ((⟨#[]⟩, true, []), false, [⟨[88, 45, 65], [98], false⟩]) := by
    rw [stepF_1 false [] _ rfl (by simp) (by decide) (by decide) (by decide) (by
      show badK (nk (ns (⟨#[120, 45, 97]⟩ : ByteArray))) = false
      rw [hk2, hn2]; exact badK_x (by decide))]
    show some (_, _, [] ++ [(⟨nk (ns (⟨#[120, 45, 97]⟩ : ByteArray)), ns (⟨#[98]⟩ : ByteArray), false⟩ : KVx)]) = _
    rw [hk2, hn2, hb]; rfl
  have e3 : stepF false [⟨[88, 45, 65], [98], false⟩] ⟨3, ⟨#[88, 45, 65]⟩, ⟨#[]⟩, 0, 0⟩ = some ((⟨#[98]⟩, false, []), false, [⟨[88, 45, 65], [98], false⟩]) := by
    rw [stepF_3 _ _ _ rfl (by simp) (by decide) (by decide)]
    show some ((strOfNums ((getKV (nk (ns (⟨#[88, 45, 65]⟩ : ByteArray))) [(⟨[88, 45, 65], [98], false⟩ : KVx)]).getD []), false, ([] : List Pair)), false, [(⟨[88, 45, 65], [98], false⟩ : KVx)]) = _
    rw [hk, hn, show getKV [88, 45, 65] [⟨[88, 45, 65], [98], false⟩] = some [98] from by simp [getKV, eqB_self]]
    rfl
  rw [script_cons e1, script_cons e3, scriptF, if_pos ⟨by simp, by decide, by decide⟩]
  exact ⟨_, rfl⟩
end Go.Proofs.Ytoimkmoalmmooaa.Pure
set_option linter.unusedVariables false
set_option linter.unusedSimpArgs false
namespace Go.Proofs.Ytoimkmoalmmooaa.Pure
open Go.RowKit Go.Proofs.Ytoimkmoalmmooaa.QA Go.Proofs.YtoimkmoalmmooaaW.PrintWords Go.Proofs.YtoimkmoalmmooaaW.PrintLast Go.Proofs.YtoimkmoalmmooaaW.PrintMore Go.Proofs.Ytoimkmoalmmooaa.Base Go.Proofs.Ytoimkmoalmmooaa.Given Go.Proofs.Ytoimkmoalmmooaa.Gv Go.Proofs.Ytoimkmoalmmooaa.Own
theorem eqB_iff (a b : List Int) : eqB a b = true ↔ strOfNums a = strOfNums b := by
  unfold eqB
  rw [beq_iff_eq]
  exact toList_eq_iff _ _
theorem set_toP (k : List Int) (v : ByteArray) : ∀ (L : List KVx), (setKV k (ns v) L).map toP = setP (strOfNums k) v (L.map toP)
  | [] => by
    show [(⟨strOfNums k, strOfNums (ns v)⟩ : Pair)] = [⟨strOfNums k, v⟩]
    rw [self_str]
  | x :: t => by
    rw [setKV, List.map_cons, setP]
    by_cases h : eqB k x.k = true
    · rw [if_pos h, if_pos (show (toP x).f0 = strOfNums k from ((eqB_iff k x.k).1 h).symm)]
      show (⟨strOfNums x.k, strOfNums (ns v)⟩ : Pair) :: t.map toP = ⟨strOfNums x.k, v⟩ :: t.map toP
      rw [self_str]
    · rw [if_neg h, if_neg (fun e => h ((eqB_iff k x.k).2 (show strOfNums k = (toP x).f0 from e.symm))), List.map_cons, set_toP k v t]
theorem del_toP (key : ByteArray) (L : List KVx) : (delKV key L).map toP = withoutP (L.map toP) key := by
  unfold delKV withoutP
  induction L with
  | nil => rfl
  | cons x t ih =>
    rw [List.map_cons, List.filter_cons, List.filter_cons]
    have e : (!(key.toList == (strOfNums x.k).toList)) = !decide ((toP x).f0 = key) := by
      congr 1
      rw [Bool.eq_iff_iff, beq_iff_eq, decide_eq_true_eq, toList_eq_iff]
      exact ⟨fun h => h.symm, fun h => h.symm⟩
    rw [e]
    cases decide ((toP x).f0 = key) <;> simp [ih]
theorem get_toP (k : List Int) : ∀ (L : List KVx), strOfNums ((getKV k L).getD []) = (valuesP (L.map toP) (strOfNums k)).headD ⟨#[]⟩
  | [] => by
    show strOfNums [] = _
    exact ns_inj (by rw [ns_strOfNums (by simp)]; rfl)
  | x :: t => by
    have ih := get_toP k t
    unfold valuesP at ih ⊢
    rw [getKV, List.map_cons, List.filter_cons]
    by_cases h : eqB x.k k = true
    · rw [if_pos h, if_pos (by simpa using (show (toP x).f0 = strOfNums k from (eqB_iff x.k k).1 h))]
      rfl
    · rw [if_neg h, if_neg (show ¬ decide ((toP x).f0 = strOfNums k) = true from fun e => h ((eqB_iff x.k k).2 (of_decide_eq_true e))), ih]
def Good (b : Nat) (L : List KVx) : Prop := Small b L ∧ ∀ x ∈ L, badK x.k = false
theorem set_good {b : Nat} {L : List KVx} {k v : List Int} (h : ∀ x ∈ L, badK x.k = false) (hk : badK k = false) : ∀ x ∈ setKV k v L, badK x.k = false := by
  induction L with
  | nil => intro x hx; simp [setKV] at hx; subst hx; exact hk
  | cons z t ih =>
    intro x hx
    rw [setKV] at hx
    split at hx
    · rcases List.mem_cons.1 hx with rfl | hx
      · exact h z (by simp)
      · exact h x (List.mem_cons_of_mem _ hx)
    · rcases List.mem_cons.1 hx with rfl | hx
      · exact h _ (by simp)
      · exact ih (fun y hy => h y (List.mem_cons_of_mem _ hy)) x hx
theorem played_name {L : List KVx} {b : Nat} (hb : b ≤ 1000000) (h : Good b L) (x : Step) (hd : 0 ≤ x.f0 ∧ x.f0 ≤ 3) (hn : isName x.f1 = true) (hv : x.f2.size ≤ 200) (hf : forbOf x.f1 = false) {H' : List Pair} {T : ByteArray} {A : List ByteArray}
    (hm : modelP (L.map toP) x.f0 (strOfNums (nk (ns x.f1))) x.f2 = some (H', T, A)) :
    ∃ L', stepF false L x = some ((T, decide (x.f0 < 2), []), false, L') ∧ L'.map toP = H' ∧ Good (b + 1) L' := by
  obtain ⟨n1, n2, n3, n4⟩ := name_x hn
  have hL := h.1.1
  have hbad : badK (nk (ns x.f1)) = false := by have := badK_is false x.f1 (.inl hn); rw [hf] at this; exact this
  have kb : (nk (ns x.f1)).length ≤ 200 ∧ (ns x.f2).length ≤ 200 ∧ ∀ y ∈ nk (ns x.f1), 0 ≤ y ∧ y ≤ 255 := ⟨by rw [nk_length, ns_length]; omega, by rw [ns_length]; exact hv, nk_row x.f1⟩
  have hnd : nkd false (ns x.f1) = nk (ns x.f1) := rfl
  unfold modelP at hm
  unfold stepF
  rw [if_neg (by omega)]
  by_cases d0 : x.f0 = 0
  · rw [if_pos d0] at hm
    by_cases c : 1 < (valuesP (L.map toP) (strOfNums (nk (ns x.f1)))).length
    · rw [if_pos c] at hm; cases hm
    rw [if_neg c] at hm
    injection hm with hm
    injection hm with e1 hm
    injection hm with e2 e3
    rw [if_pos (.inl d0), if_neg (by omega), if_neg (show ¬ x.f0 = 9 by omega), hnd, if_neg (by rw [hbad]; decide), if_pos d0]
    refine ⟨_, by rw [← e2, decide_eq_true (by omega)], by rw [set_toP]; exact e1, (set_small h.1 kb), set_good (b := b) h.2 hbad⟩
  rw [if_neg d0] at hm
  by_cases d1 : x.f0 = 1
  · rw [if_pos d1] at hm
    injection hm with hm
    injection hm with e1 hm
    injection hm with e2 e3
    rw [if_pos (.inr (.inl d1)), if_neg (by omega), if_neg (show ¬ x.f0 = 9 by omega), hnd, if_neg (by rw [hbad]; decide), if_neg d0, if_pos d1]
    refine ⟨_, by rw [← e2, decide_eq_true (by omega)], ?_, ⟨by rw [List.length_append]; simp; omega, fun y hy => ?_⟩, fun y hy => ?_⟩
    · rw [List.map_append, ← e1]
      show L.map toP ++ [(⟨strOfNums (nk (ns x.f1)), strOfNums (ns x.f2)⟩ : Pair)] = _
      rw [self_str]
    · rcases List.mem_append.1 hy with hy | hy
      · exact h.1.2 y hy
      · rw [List.mem_singleton] at hy; subst hy; exact kb
    · rcases List.mem_append.1 hy with hy | hy
      · exact h.2 y hy
      · rw [List.mem_singleton] at hy; subst hy; exact hbad
  rw [if_neg d1] at hm
  rw [if_neg (by omega)]
  by_cases d2 : x.f0 = 2
  · rw [if_pos d2] at hm
    injection hm with hm
    injection hm with e1 hm
    injection hm with e2 e3
    rw [if_pos d2, hnd]
    refine ⟨_, by rw [← e2, decide_eq_false (by omega)], by rw [del_toP]; exact e1, ⟨?_, fun y hy => ?_⟩, fun y hy => ?_⟩
    · unfold delKV; exact Nat.le_trans (List.length_filter_le _ _) (by omega)
    · unfold delKV at hy; exact h.1.2 y (List.mem_filter.1 hy).1
    · unfold delKV at hy; exact h.2 y (List.mem_filter.1 hy).1
  rw [if_neg d2] at hm
  have d3 : x.f0 = 3 := by omega
  rw [if_pos d3] at hm
  injection hm with hm
  injection hm with e1 hm
  injection hm with e2 e3
  rw [if_neg d2, if_pos d3, hnd]
  refine ⟨_, by rw [get_toP, e2, decide_eq_false (by omega)], e1, h.1.mono (by omega), h.2⟩
theorem played_forb {L : List KVx} {b : Nat} (hb : b ≤ 1000000) (h : Good b L) (x : Step) (hd : 0 ≤ x.f0 ∧ x.f0 ≤ 3) (hv : x.f2.size ≤ 200) (hs : x.f1.size ≤ 60 ∧ x.f1.size ≠ 0) (hf : forbOf x.f1 = true) :
    ∃ T, stepF false L x = some ((T, false, []), false, L) ∧ T = ⟨#[]⟩ := by
  have hL := h.1.1
  have hbad : badK (nk (ns x.f1)) = true := by have := badK_is false x.f1 (.inr hf); rw [hf] at this; exact this
  have hnd : nkd false (ns x.f1) = nk (ns x.f1) := rfl
  have hno : ∀ y ∈ L, ¬ strOfNums y.k = strOfNums (nk (ns x.f1)) := by
    intro y hy e
    have e2 : y.k = nk (ns x.f1) := by
      have := congrArg ns e
      rw [ns_strOfNums (h.1.2 y hy).2.2, ns_strOfNums (nk_row x.f1)] at this
      exact this
    have := h.2 y hy
    rw [e2, hbad] at this
    cases this
  unfold stepF
  rw [if_neg (by omega)]
  by_cases d01 : x.f0 = 0 ∨ x.f0 = 1
  · rw [if_pos (by omega), if_neg hs.2, if_neg (show ¬ x.f0 = 9 by omega), hnd, if_pos hbad]
    exact ⟨_, rfl, rfl⟩
  rw [if_neg (by omega)]
  by_cases d2 : x.f0 = 2
  · rw [if_pos d2, hnd]
    have e : delKV (strOfNums (nk (ns x.f1))) L = L := by
      unfold delKV
      rw [List.filter_eq_self]
      intro y hy
      have := hno y hy
      rw [Bool.not_eq_true', beq_eq_false_iff_ne]
      exact fun e => this ((toList_eq_iff _ _).1 e).symm
    rw [e]
    exact ⟨_, rfl, rfl⟩
  rw [if_neg d2, if_pos (by omega), hnd]
  refine ⟨_, rfl, ?_⟩
  have : ∀ (M : List KVx), (∀ y ∈ M, ¬ strOfNums y.k = strOfNums (nk (ns x.f1))) → getKV (nk (ns x.f1)) M = none := by
    intro M
    induction M with
    | nil => intro _; rfl
    | cons z t ih =>
      intro hM
      rw [getKV, if_neg (fun e => hM z (by simp) ((eqB_iff _ _).1 e))]
      exact ih (fun y hy => hM y (List.mem_cons_of_mem _ hy))
  rw [this L hno]
  exact ns_inj (by rw [show (none : Option (List Int)).getD [] = [] from rfl, ns_strOfNums (by simp)]; rfl)
def playF (H : List Pair) : List Step → Option (List Pair × List ByteArray)
  | [] => some (H, [])
  | x :: r => if forbOf x.f1 = true then (playF H r).map fun y => (y.1, (⟨#[]⟩ : ByteArray) :: y.2) else match modelP H x.f0 (strOfNums (nk (ns x.f1))) x.f2 with
    | none => none
    | some (H', T, _) => (playF H' r).map fun y => (y.1, T :: y.2)
def okPlay (x : Step) : Prop := (isName x.f1 = true ∨ forbOf x.f1 = true) ∧ (0 ≤ x.f0 ∧ x.f0 ≤ 3) ∧ x.f2.size ≤ 200
def wants : List Step → List ByteArray → List Ans
  | x :: r, t :: w => ⟨t, decide (x.f0 < 2) && !forbOf x.f1, 0, [], []⟩ :: wants r w
  | _, _ => []
theorem played_run : ∀ (l : List Step) (L : List KVx) (b : Nat) (Hf : List Pair) (want : List ByteArray), b + l.length ≤ 1000000 → Good b L → (∀ x ∈ l, okPlay x) → playF (L.map toP) l = some (Hf, want) →
    ∃ L', runF false L l = some (wants l want, some (false, L')) ∧ L'.map toP = Hf ∧ want.length = l.length ∧ Good (b + l.length) L'
  | [], L, b, Hf, want, _, h, _, e => by
    have e : some (L.map toP, ([] : List ByteArray)) = some (Hf, want) := e
    injection e with e
    injection e with e1 e2
    subst e2
    exact ⟨L, rfl, e1, rfl, h⟩
  | x :: r, L, b, Hf, want, hb, h, hok, e => by
    rw [List.length_cons] at hb
    obtain ⟨o1, o2, o3⟩ := hok x (by simp)
    have hokr : ∀ y ∈ r, okPlay y := fun y hy => hok y (List.mem_cons_of_mem _ hy)
    rw [playF] at e
    by_cases hf : forbOf x.f1 = true
    · rw [if_pos hf] at e
      cases hp : playF (L.map toP) r with
      | none => rw [hp] at e; cases e
      | some y =>
        obtain ⟨H2, w2⟩ := y
        rw [hp] at e
        have e : some (H2, (⟨#[]⟩ : ByteArray) :: w2) = some (Hf, want) := e
        injection e with e
        injection e with e1 e2
        subst e1 e2
        obtain ⟨k1, k2⟩ := name_key (s := x.f1) (.inr hf)
        have hne : x.f1.size ≠ 0 := fun e => k1.1 (List.length_eq_zero_iff.1 (by rw [ns_length]; exact e))
        obtain ⟨T, hs, hT⟩ := played_forb (b := b) (by omega) h x o2 o3 ⟨k2, hne⟩ hf
        subst hT
        obtain ⟨L', i1, i2, i3, i4⟩ := played_run r L b H2 w2 (by omega) h hokr hp
        refine ⟨L', ?_, i2, by rw [List.length_cons, List.length_cons, i3], ⟨i4.1.mono (by rw [List.length_cons]; omega), i4.2⟩⟩
        rw [runF, hs]
        show (runF false L r).map _ = _
        rw [i1]
        show some ((⟨⟨#[]⟩, false, 0, [], []⟩ : Ans) :: wants r w2, _) = some (wants (x :: r) _, _)
        rw [wants, hf]; simp
    · rw [if_neg hf] at e
      have hf : forbOf x.f1 = false := by simpa using hf
      have hn : isName x.f1 = true := by
        rcases o1 with h | h
        · exact h
        · rw [hf] at h; cases h
      cases hm : modelP (L.map toP) x.f0 (strOfNums (nk (ns x.f1))) x.f2 with
      | none => rw [hm] at e; cases e
      | some y =>
        obtain ⟨H1, T, A⟩ := y
        rw [hm] at e
        obtain ⟨L1, s1, s2, s3⟩ := played_name (b := b) (by omega) h x o2 hn o3 hf hm
        cases hp : playF H1 r with
        | none =>
          have e : (playF H1 r).map (fun y => (y.1, T :: y.2)) = some (Hf, want) := e
          rw [hp] at e; cases e
        | some z =>
          obtain ⟨H2, w2⟩ := z
          have e : (playF H1 r).map (fun y => (y.1, T :: y.2)) = some (Hf, want) := e
          rw [hp] at e
          have e : some (H2, T :: w2) = some (Hf, want) := e
          injection e with e
          injection e with e1 e2
          subst e1 e2
          rw [← s2] at hp
          obtain ⟨L', i1, i2, i3, i4⟩ := played_run r L1 (b + 1) H2 w2 (by omega) s3 hokr hp
          refine ⟨L', ?_, i2, by rw [List.length_cons, List.length_cons, i3], ⟨i4.1.mono (by rw [List.length_cons]; omega), i4.2⟩⟩
          rw [runF, s1]
          show (runF false L1 r).map _ = _
          rw [i1]
          show some ((⟨T, decide (x.f0 < 2), 0, [], []⟩ : Ans) :: wants r w2, _) = some (wants (x :: r) _, _)
          rw [wants, hf, Bool.not_false, Bool.and_true]
theorem wants_length : ∀ (l : List Step) (w : List ByteArray), w.length = l.length → (wants l w).length = l.length
  | [], [], _ => rfl
  | x :: r, t :: w, h => by rw [wants, List.length_cons, List.length_cons, wants_length r w (by simpa using h)]
  | [], _ :: _, h => by simp at h
  | _ :: _, [], h => by simp at h
end Go.Proofs.Ytoimkmoalmmooaa.Pure
set_option linter.unusedVariables false
set_option linter.unusedSimpArgs false
namespace Go.Proofs.Ytoimkmoalmmooaa.Pure
open Go.RowKit Go.Proofs.Ytoimkmoalmmooaa.QA Go.Proofs.YtoimkmoalmmooaaW.PrintWords Go.Proofs.YtoimkmoalmmooaaW.PrintLast Go.Proofs.YtoimkmoalmmooaaW.PrintMore Go.Proofs.Ytoimkmoalmmooaa.Base Go.Proofs.Ytoimkmoalmmooaa.Given Go.Proofs.Ytoimkmoalmmooaa.Gv Go.Proofs.Ytoimkmoalmmooaa.Own
theorem playF_forb (s : Step) (hs : forbOf s.f1 = true) : ∀ (xs : List Step) (H0 H : List Pair) (want : List ByteArray), playF H0 xs = some (H, want) → playF H0 (xs ++ [s]) = some (H, want ++ [⟨#[]⟩])
  | [], H0, H, want, h => by
    have h : some (H0, ([] : List ByteArray)) = some (H, want) := h
    injection h with h
    injection h with h1 h2
    subst h1 h2
    show playF H0 [s] = _
    rw [playF, if_pos hs]; rfl
  | x :: r, H0, H, want, h => by
    rw [List.cons_append, playF]
    rw [playF] at h
    by_cases hf : forbOf x.f1 = true
    · rw [if_pos hf] at h ⊢
      cases hp : playF H0 r with
      | none => rw [hp] at h; cases h
      | some y =>
        obtain ⟨H2, w2⟩ := y
        rw [hp] at h
        have h : some (H2, (⟨#[]⟩ : ByteArray) :: w2) = some (H, want) := h
        injection h with h
        injection h with h1 h2
        subst h1 h2
        rw [playF_forb s hs r H0 H2 w2 hp]; rfl
    · rw [if_neg hf] at h ⊢
      cases hm : modelP H0 x.f0 (strOfNums (nk (ns x.f1))) x.f2 with
      | none => rw [hm] at h; cases h
      | some y =>
        obtain ⟨H1, T, A⟩ := y
        rw [hm] at h
        have h : (playF H1 r).map (fun y => (y.1, T :: y.2)) = some (H, want) := h
        show (playF H1 (r ++ [s])).map (fun y => (y.1, T :: y.2)) = _
        cases hp : playF H1 r with
        | none => rw [hp] at h; cases h
        | some z =>
          obtain ⟨H2, w2⟩ := z
          rw [hp] at h
          have h : some (H2, T :: w2) = some (H, want) := h
          injection h with h
          injection h with h1 h2
          subst h1 h2
          rw [playF_forb s hs r H1 H2 w2 hp]; rfl
theorem playF_name (s : Step) (hs : forbOf s.f1 = false) {H H' : List Pair} {T : ByteArray} {A : List ByteArray} (hm : modelP H s.f0 (strOfNums (nk (ns s.f1))) s.f2 = some (H', T, A)) : ∀ (xs : List Step) (H0 : List Pair) (want : List ByteArray), playF H0 xs = some (H, want) → playF H0 (xs ++ [s]) = some (H', want ++ [T])
  | [], H0, want, h => by
    have h : some (H0, ([] : List ByteArray)) = some (H, want) := h
    injection h with h
    injection h with h1 h2
    subst h1 h2
    show playF H0 [s] = _
    rw [playF, if_neg (by rw [hs]; decide), hm]; rfl
  | x :: r, H0, want, h => by
    rw [List.cons_append, playF]
    rw [playF] at h
    by_cases hf : forbOf x.f1 = true
    · rw [if_pos hf] at h ⊢
      cases hp : playF H0 r with
      | none => rw [hp] at h; cases h
      | some y =>
        obtain ⟨H2, w2⟩ := y
        rw [hp] at h
        have h : some (H2, (⟨#[]⟩ : ByteArray) :: w2) = some (H, want) := h
        injection h with h
        injection h with h1 h2
        subst h1 h2
        rw [playF_name s hs hm r H0 w2 hp]; rfl
    · rw [if_neg hf] at h ⊢
      cases hm1 : modelP H0 x.f0 (strOfNums (nk (ns x.f1))) x.f2 with
      | none => rw [hm1] at h; cases h
      | some y =>
        obtain ⟨H1, T1, A1⟩ := y
        rw [hm1] at h
        have h : (playF H1 r).map (fun y => (y.1, T1 :: y.2)) = some (H, want) := h
        show (playF H1 (r ++ [s])).map (fun y => (y.1, T1 :: y.2)) = _
        cases hp : playF H1 r with
        | none => rw [hp] at h; cases h
        | some z =>
          obtain ⟨H2, w2⟩ := z
          rw [hp] at h
          have h : some (H2, T1 :: w2) = some (H, want) := h
          injection h with h
          injection h with h1 h2
          subst h1 h2
          rw [playF_name s hs hm r H1 w2 hp]; rfl
theorem setP_length (key v : ByteArray) : ∀ H : List Pair, (setP key v H).length ≤ H.length + 1
  | [] => by simp [setP]
  | p :: t => by
    rw [setP]
    split
    · simp
    · have := setP_length key v t; simp only [List.length_cons]; omega
theorem modelP_length {H H' : List Pair} {d : Int} {key v T : ByteArray} {A : List ByteArray} (h : modelP H d key v = some (H', T, A)) : H'.length ≤ H.length + 1 := by
  have hs := setP_length key v H
  have hw : (withoutP H key).length ≤ H.length := List.length_filter_le _ _
  unfold modelP at h
  split at h
  · split at h
    · cases h
    · injection h with h; injection h with h1; subst h1; exact hs
  split at h
  · injection h with h; injection h with h1; subst h1; simp
  split at h
  · injection h with h; injection h with h1; subst h1; omega
  split at h
  · injection h with h; injection h with h1; subst h1; omega
  split at h
  · injection h with h; injection h with h1; subst h1; omega
  · injection h with h; injection h with h1; subst h1; omega
theorem wants_at : ∀ (l : List Step) (w : List ByteArray) (i : Nat) (x : Step) (t : ByteArray), l[i]? = some x → w[i]? = some t → (wants l w)[i]? = some ⟨t, decide (x.f0 < 2) && !forbOf x.f1, 0, [], []⟩
  | [], _, _, _, _, h, _ => by simp at h
  | _ :: _, [], _, _, _, _, h => by simp at h
  | y :: r, u :: w, 0, x, t, h1, h2 => by
    simp only [List.getElem?_cons_zero, Option.some.injEq] at h1 h2
    subst h1 h2
    rw [wants]; rfl
  | y :: r, u :: w, i + 1, x, t, h1, h2 => by
    rw [wants, List.getElem?_cons_succ]
    exact wants_at r w i x t (by simpa using h1) (by simpa using h2)
theorem played_script (xs : List Step) (H : List Pair) (want : List ByteArray) (hl : xs.length ≤ 40) (hok : ∀ x ∈ xs, okPlay x) (h : playF [] xs = some (H, want)) (s7 : Step) (h7 : s7.f0 = 7) (h71 : s7.f1.size ≤ 1000) (h72 : s7.f2.size ≤ 1000) :
    ∃ T, impl_TrailerScript.f (xs ++ [s7]) = some (wants xs want ++ [⟨⟨#[]⟩, false, 0, [], H⟩], T, true) ∧ want.length = xs.length ∧ (wants xs want).length = xs.length ∧ H.length ≤ 40 := by
  obtain ⟨L', h1, h2, h3, h4⟩ := played_run xs [] 0 H want (by omega) ⟨⟨by simp, by simp⟩, by simp⟩ hok h
  have hlen := h4.1.1
  have hs : stepF false L' s7 = some ((⟨#[]⟩, false, L'.map toP), false, L') := stepF_7 _ _ _ h7 (by omega) (by omega) (by omega)
  have hr : runF false [] (xs ++ [s7]) = some (wants xs want ++ [⟨⟨#[]⟩, false, 0, [], H⟩], some (false, L')) := by
    rw [run_append, h1]
    show ((runF false L' [s7]).map _) = _
    rw [runF, hs, ← h2]; rfl
  obtain ⟨t, ht⟩ := end_told (st := some (false, L')) (b := xs.length) (by omega) (fun dn L e => by
    injection e with e
    injection e with e1 e2
    subst e2
    have := h4.1
    rwa [Nat.zero_add] at this)
  refine ⟨t, script_is (by rw [List.length_append, List.length_singleton]; omega) ?_, h3, wants_length _ _ h3, by rw [← h2, List.length_map]; omega⟩
  rw [script_run, hr, Option.bind_some]
  simp only [List.nil_append]
  rw [ht]; rfl
end Go.Proofs.Ytoimkmoalmmooaa.Pure
set_option linter.unusedVariables false
set_option linter.unusedSimpArgs false
namespace Go.Proofs.Ytoimkmoalmmooaa.Own
open Go.RowKit Go.Proofs.YtoimkmoalmmooaaW.PrintWords Go.Proofs.YtoimkmoalmmooaaW.PrintLast Go.Proofs.YtoimkmoalmmooaaW.PrintMore Go.Proofs.Ytoimkmoalmmooaa.Base Go.Proofs.Ytoimkmoalmmooaa.Gv Go.Proofs.Ytoimkmoalmmooaa.Given Go.Proofs.Ytoimkmoalmmooaa.QA
def stepV (s : Step) : List Value := [.int .i64 s.f0, .string s.f1, .string s.f2, .int .i64 s.f3, .int .i64 s.f4]
theorem steps_reps (W : World) (base : Nat) (ok : Nat → Prop) : ∀ l : List Step, Reps (k28.M W base ok) 5 l (l.flatMap stepV)
  | [] => Reps.none _ _
  | s :: r => by
    rw [List.flatMap_cons]
    exact Reps.c5 (k28_mkM W base ok s) (steps_reps W base ok r)
theorem steps_lit (w : World) (l : List Step) (hl : l.length ≤ 1000000) (cs : Array Value) (hcs : cs = (l.flatMap stepV).toArray) : Kd.C k28 (w.alloc (.cells cs 28)) (some ⟨w.heap.size, 0, none⟩) l.length l := by
  subst hcs
  have hrep := steps_reps w w.heap.size (fun _ => True) l
  have h2 := World.ownsRow_lit (base := w.heap.size) (e := 28) (size := 5) w (l.flatMap stepV).toArray l.length (Nat.le_refl _) (by unfold maxLen; omega) (by simpa using hrep.1)
  have hR : Kd.R k28 28 (w.alloc (.cells (l.flatMap stepV).toArray 28)) w.heap.size (fun _ => True) (.slice (some ⟨w.heap.size, 0, none⟩) l.length l.length) l := by
    refine ⟨fun k hk => trivial, l.flatMap stepV, by simpa [show k28.sz = 5 from rfl] using h2, ?_⟩
    exact (steps_reps _ _ _ l)
  exact (Kd.R_reads' hR).2.2
theorem steps_R (w : World) (l : List Step) (hl : l.length ≤ 1000000) : Kd.R k28 28 (w.alloc (.cells (l.flatMap stepV).toArray 28)) w.heap.size (fun _ => True) (.slice (some ⟨w.heap.size, 0, none⟩) l.length l.length) l := by
  have hrep := steps_reps w w.heap.size (fun _ => True) l
  have h2 := World.ownsRow_lit (base := w.heap.size) (e := 28) (size := 5) w (l.flatMap stepV).toArray l.length (Nat.le_refl _) (by unfold maxLen; omega) (by simpa using hrep.1)
  exact ⟨fun k hk => trivial, l.flatMap stepV, by simpa [show k28.sz = 5 from rfl] using h2, steps_reps _ _ _ l⟩
end Go.Proofs.Ytoimkmoalmmooaa.Own
set_option linter.unusedVariables false
set_option linter.unusedSimpArgs false
namespace Go.Proofs.Ytoimkmoalmmooaa.Pure
open Go.RowKit Go.Proofs.YtoimkmoalmmooaaW.PrintWords Go.Proofs.YtoimkmoalmmooaaW.PrintLast Go.Proofs.YtoimkmoalmmooaaW.PrintMore Go.Proofs.Ytoimkmoalmmooaa.Base Go.Proofs.Ytoimkmoalmmooaa.Gv Go.Proofs.Ytoimkmoalmmooaa.Given Go.Proofs.Ytoimkmoalmmooaa.QA Go.Proofs.Ytoimkmoalmmooaa.Own
structure MidP (w : World) (m n : Nat) (hv wv : Value) (H : List Pair) (want : List ByteArray) (wr : World) : Prop where
  r : Kd.R k34 34 wr w.heap.size (fun _ => True) hv H
  s : Kd.R Kd.string 9 wr w.heap.size (fun _ => True) wv want
  b : Below w.heap.size w wr
  hl : H.length ≤ m
  wl : want.length = n
section
variable {w wr w1 : World} {m n : Nat} {hv wv v1 : Value} {H : List Pair} {want : List ByteArray}
theorem MidP.nil (w : World) : MidP w 0 0 (.slice none 0 0) (.slice none 0 0) [] [] w := ⟨Kd.R_nil _ _ _ _ _, Kd.R_nil _ _ _ _ _, Below.refl _ _, by simp, rfl⟩
theorem MidP.step (h : MidP w m n hv wv H want wr) (hb : Below wr.heap.size wr w1) : MidP w m n hv wv H want w1 :=
  ⟨Kd.R_below h.r hb, Kd.R_below h.s hb, h.b.trans (below_weaken_t h.b.size hb), h.hl, h.wl⟩
theorem MidP.put (h : MidP w m n hv wv H want wr) {x : ByteArray} (ho : Kd.R Kd.string 9 w1 w.heap.size (fun _ => True) v1 (want ++ [x])) (hb : Below w.heap.size w w1) (hg : wr.grownBy w1 wv.ownBlock) : MidP w m (n + 1) hv v1 H (want ++ [x]) w1 :=
  ⟨Kd.R_over' h.r (Kd.R_typed h.s) (by decide) hg, ho, hb, h.hl, by rw [List.length_append, List.length_singleton, h.wl]⟩
theorem MidP.more (h : MidP w m n hv wv H want wr) {k : Nat} (hk : m ≤ k) : MidP w k n hv wv H want wr := ⟨h.r, h.s, h.b, Nat.le_trans h.hl hk, h.wl⟩
theorem model_none {W : World} (hM : MidP w m n hv wv H want W) (s : Step) (hm : m ≤ 1000000) (hk : s.f1.size ≤ 1000000000000) (hR : modelP H s.f0 (strOfNums (nk (ns s.f1))) s.f2 = none) :
    Calls Try.prog 22 #[hv, .agg #[.int .i64 s.f0, .string s.f1, .string s.f2, .int .i64 s.f3, .int .i64 s.f4]] W fun e w' =>
      ∃ v0 A4 n4 c4 A5 n5 c5, e = .returned (.tuple #[v0, .agg #[.string ⟨#[]⟩, .bool false, .int .i64 0, .slice A4 n4 c4, .slice A5 n5 c5], .bool false]) ∧ Below w.heap.size w w' := by
  have hl := hM.hl
  refine (model_walk w W hv H s.f0 s.f1 s.f2 _ s.f3 s.f4 hM.b hM.r (by omega) (show laws_normal.f s.f1 = some _ from if_pos (by omega)) (H, ⟨#[]⟩, false) (by unfold modelT; rw [hR])).mono ?_
  rintro e w' ⟨v0, A4, n4, c4, A5, n5, c5, rfl, h0, hb, hg⟩
  exact ⟨v0, A4, n4, c4, A5, n5, c5, rfl, hb⟩
theorem model_some {W : World} (hM : MidP w m n hv wv H want W) (s : Step) (hm : m ≤ 1000000) (hk : s.f1.size ≤ 1000000000000) {H' : List Pair} {T : ByteArray} {A : List ByteArray} (hR : modelP H s.f0 (strOfNums (nk (ns s.f1))) s.f2 = some (H', T, A)) :
    Calls Try.prog 22 #[hv, .agg #[.int .i64 s.f0, .string s.f1, .string s.f2, .int .i64 s.f3, .int .i64 s.f4]] W fun e w' =>
      ∃ v0 A4 n4 c4 A5 n5 c5, e = .returned (.tuple #[v0, .agg #[.string T, .bool false, .int .i64 0, .slice A4 n4 c4, .slice A5 n5 c5], .bool true]) ∧ MidP w (m + 1) n v0 wv H' want w' := by
  have hl := hM.hl
  refine (model_walk w W hv H s.f0 s.f1 s.f2 _ s.f3 s.f4 hM.b hM.r (by omega) (show laws_normal.f s.f1 = some _ from if_pos (by omega)) (H', T, true) (by unfold modelT; rw [hR])).mono ?_
  rintro e w' ⟨v0, A4, n4, c4, A5, n5, c5, rfl, h0, hb, hg⟩
  have := modelP_length hR
  exact ⟨v0, A4, n4, c4, A5, n5, c5, rfl, h0, Kd.R_over' hM.s (Kd.R_typed hM.r) (by decide) hg, hb, by omega, hM.wl⟩
end
theorem two_read {w : World} {base : Nat} {ok : Nat → Prop} {v : Value} {a b : Ans} (h : Kd.S k32 32 w base ok v [a, b]) :
    ∃ g o c, v = .slice (some ⟨g, o, none⟩) 2 c ∧ w.cell? ⟨g, o, none⟩ = some (.string a.f0) ∧ w.cell? ⟨g, o + 1, none⟩ = some (.bool a.f1) ∧ w.cell? ⟨g, o + 5, none⟩ = some (.string b.f0) ∧ w.cell? ⟨g, o + 5 + 1, none⟩ = some (.bool b.f1) := by
  obtain ⟨A, c, rfl, hc, hC⟩ := Kd.S_reads h
  obtain ⟨g, _, _, _, _, e, y0, y1, _⟩ := at_T32 hC 0 (by omega) (by simp)
  obtain ⟨g2, _, _, _, _, e2, z0, z1, _⟩ := at_T32 hC 1 (by omega) (by simp)
  subst e
  cases e2
  obtain ⟨g0, rfl⟩ := Kd.R_head (Kd.S_R h)
  exact ⟨g0, 0, c, rfl, y0, y1, z0, z1⟩
theorem script_at {w : World} {base : Nat} {ok : Nat → Prop} {v : Value} {ys : List Step} {L : List Ans} {T : ByteArray} {M : Nat} (h : Kd.R k28 28 w base ok v ys) (x : impl_TrailerScript.f ys = some (L, T, true)) (hM : L.length = M) :
    Calls Try.prog 9 #[v] w fun e w' => ∃ A c, e = .returned (.tuple #[.slice A M c, .string T, .bool true]) ∧ Kd.C k32 w' A M L ∧ Below w.heap.size w w' := by
  obtain ⟨A, c, rfl, hc, hC⟩ := Kd.R_reads h
  subst hM
  refine (impl_TrailerScript.calls A c ys L T true w hC hc x).mono ?_
  rintro e w' ⟨v, rfl, hS, hb⟩
  obtain ⟨A2, c2, rfl, _, hC2⟩ := Kd.S_reads hS
  exact ⟨A2, c2, rfl, hC2, hb⟩
theorem same_calls (w : World) (A B : Option Addr) (c d : Nat) (H : List Pair) (hH : H.length ≤ 1000000) (hA : Kd.C k34 w A H.length H) (hc : H.length ≤ c) (hB : Kd.C k34 w B H.length H) (hd : H.length ≤ d) :
    Calls Try.prog 14 #[.slice A H.length c, .slice B H.length d] w fun e w' => e = .returned (.bool true) ∧ Drawn0 w w' := by
  obtain ⟨k, hk⟩ := samePairs_self H (by omega)
  exact laws_samePairs.calls k A c H B d H true w hA hc hB hd (hk k (Nat.le_refl _))
end Go.Proofs.Ytoimkmoalmmooaa.Pure
