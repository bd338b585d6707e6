/- Texts of this claim, one behind the other (merged by wip/prune.py of this repo, without what the proof does not use): PlayedW. -/
import Derived.Test.YtoimkmoalmmooaaZP4
import Derived.Test.YtoimkmoalmmooaaZP19
set_option linter.unusedVariables false
set_option linter.unusedSimpArgs false
namespace Go.Proofs.Ytoimkmoalmmooaa.Pure
open Go.RowKit Go.Proofs.YtoimkmoalmmooaaW.PrintWords Go.Proofs.YtoimkmoalmmooaaW.PrintLast Go.Proofs.YtoimkmoalmmooaaW.PrintMore Go.Proofs.Ytoimkmoalmmooaa.Base Go.Proofs.Ytoimkmoalmmooaa.Gv Go.Proofs.Ytoimkmoalmmooaa.Given Go.Proofs.Ytoimkmoalmmooaa.QA Go.Proofs.Ytoimkmoalmmooaa.Own
theorem zz3_calls (w : World) (A0 : Option Addr) (c0 : Nat) (xs : List Step) (hr0 : Kd.C k28 w A0 xs.length xs) (hc0 : xs.length ≤ c0) (b : Bool) (hb : fits3 xs = b) :
    Calls Try.prog 18 #[.slice A0 xs.length c0] w fun e w' => e = .returned (.bool b) ∧ Below w.heap.size w w' := by
  obtain ⟨k, hk⟩ := fits3_ends xs
  rw [hb] at hk
  exact laws_zzFits3.calls k A0 c0 xs b w hr0 hc0 (hk k (Nat.le_refl _))
set_option maxHeartbeats 1000000 in
set_option maxRecDepth 100000 in
theorem played_big (w : World) (A0 : Option Addr) (c0 : Nat) (xs : List Step) (hr0 : Kd.C k28 w A0 xs.length xs) (hc0 : xs.length ≤ c0) (hb : fits3 xs = false) :
    Calls Try.prog 6 #[.slice A0 xs.length c0] w fun e w' => e = .returned (.bool true) ∧ Below w.heap.size w w' := by
  have HZ := Lib.hid (zz3_calls w A0 c0 xs hr0 hc0 false hb)
  clear hb
  go_enter Try.func6, Try.ntmps6
  go_wp2_with (go_at_call 18; refine HZ.out.mono ?_; rintro e w1 ⟨rfl, hb1⟩)
  go_ret
  exact ⟨rfl, hb1⟩
theorem printed_calls (s : ByteArray) (hs : s.size ≤ 140737488351232) (b : Bool) (hb : isPrinted s = b) (W : World) : Calls Try.prog 21 #[.string s] W fun e w' => e = .returned (.bool b) ∧ Drawn0 W w' := by
  obtain ⟨k, hk⟩ := printed_ends s hs
  rw [hb] at hk
  exact laws_printed.calls k s b W (hk k (Nat.le_refl _))
theorem name_calls (s : ByteArray) (hs : s.size ≤ 140737488351232) (b : Bool) (hb : isName s = b) (W : World) : Calls Try.prog 10 #[.string s] W fun e w' => e = .returned (.bool b) ∧ Drawn0 W w' := by
  obtain ⟨k, hk⟩ := name_ends s hs
  rw [hb] at hk
  exact laws_name.calls k s b W (hk k (Nat.le_refl _))
theorem forb_calls (s : ByteArray) (hs : s.size ≤ 4611686018427387904) (b : Bool) (hb : forbOf s = b) (W : World) : Calls Try.prog 11 #[.string s] W fun e w' => e = .returned (.bool b) ∧ Below W.heap.size W w' := by
  have h := forb_is s hs
  rw [hb] at h
  exact laws_forbidden.calls s b W h
theorem take_snoc {xs : List Step} {i : Nat} {s : Step} (h : xs[i]? = some s) : xs.take (i + 1) = xs.take i ++ [s] := by
  obtain ⟨hl, he⟩ := List.getElem?_eq_some_iff.1 h
  rw [List.take_succ_eq_append_getElem hl, he]
set_option maxHeartbeats 4000000 in
set_option maxRecDepth 100000 in
theorem played_walk (w : World) (A0 : Option Addr) (c0 : Nat) (xs : List Step) (hr0 : Kd.C k28 w A0 xs.length xs) (hc0 : xs.length ≤ c0) (hb : fits3 xs = true) :
    Calls Try.prog 6 #[.slice A0 xs.length c0] w fun e w' => e = .returned (.bool true) ∧ Below w.heap.size w w' := by
  have HZ := Lib.hid (zz3_calls w A0 c0 xs hr0 hc0 true hb)
  obtain ⟨T1, x1⟩ := add_get_script
  have X1 := Lib.hid (script_is (by decide) x1)
  obtain ⟨hl31, hft⟩ := fits3_mem hb
  have HFT := Lib.hid hft
  clear hft
  obtain ⟨N, hN⟩ : ∃ N, xs.length = N := ⟨_, rfl⟩
  rw [hN] at HZ hc0 hl31 ⊢
  have HN := Lib.hid hN
  have HR := Lib.hid hr0
  clear hb x1 hN hr0
  go_enter Try.func6, Try.ntmps6
  go_wp2_with (first
    | (go_at_call 18; refine HZ.out.mono ?_; rintro e w1 ⟨rfl, hb1⟩; have HB := Lib.hid hb1; clear hb1)
    | (go_at_call 9
       refine (impl_TrailerScript.calls (some ⟨w1.heap.size, 0, none⟩) 2 [⟨1, ⟨#[120, 45, 97]⟩, ⟨#[98]⟩, 0, 0⟩, ⟨3, ⟨#[88, 45, 65]⟩, ⟨#[]⟩, 0, 0⟩] _ _ _ _ (steps_lit w1 _ (by decide) _ rfl) (by decide) X1.out).mono ?_
       rintro e w2 ⟨v, rfl, hS, hB⟩
       obtain ⟨g, o, c, rfl, y0, y1, y2, y3⟩ := two_read hS
       have HB2 := Lib.hid (HB.out.trans (below_weaken_t HB.out.size (((Below.refl _ _).alloc (Nat.le_refl _) _).trans (below_weaken_t (by simp) hB))))
       clear hS hB))
  · go_ret
    exact ⟨rfl, HB2.out⟩
  · rename_i h40
    have h40' : N ≤ 40 := by first | omega | (simp at h40; omega)
    have HM0 := Lib.hid ((MidP.nil w).step HB2.out)
    clear HB2
    go_loopw [6, 7, 55] (fun hv wv iv wr => ∃ (i : Nat) (H : List Pair) (want : List ByteArray), iv = .int .i64 i ∧ i ≤ N ∧ Hid (playF [] (xs.take i) = some (H, want)) ∧ Hid (∀ x ∈ xs.take i, okPlay x) ∧ Hid (MidP w i i hv wv H want wr)) (fun _ _ iv _ => N - (intOf iv).toNat)
    case atStart => exact ⟨0, [], [], rfl, by omega, Lib.hid rfl, Lib.hid (by simp), HM0⟩
    case round =>
      clear y0 y1 y2 y3 HM0
      obtain ⟨i, H, want, rfl, hiN, HPF, HOK, HM⟩ := hrel
      by_cases hlt : i < N
      · have hlx : i < xs.length := by have := HN.out; omega
        obtain ⟨s, hs⟩ : ∃ s, xs[i] = s := ⟨_, rfl⟩
        have hrd : rd_T28 xs (i : Int) = s := by rw [rdStep_nat _ _ hlx, hs]
        have hsm : s ∈ xs := by rw [← hs]; exact List.getElem_mem hlx
        obtain ⟨z1, z2⟩ := HFT.out s hsm
        obtain ⟨ad, e0, y0, y1, y2, y3, y4⟩ := at_T28 HR.out (i : Int) (by omega) (by omega)
        cases e0
        rw [hrd] at y0 y1 y2 y3 y4
        simp only [Int.toNat_natCast] at y0 y1 y2 y3 y4
        have hb := HM.out.b
        replace y0 := (hb.cell (World.block_lt_of_cell? w _ y0)).trans y0
        replace y1 := (hb.cell (World.block_lt_of_cell? w _ y1)).trans y1
        replace y2 := (hb.cell (World.block_lt_of_cell? w _ y2)).trans y2
        replace y3 := (hb.cell (World.block_lt_of_cell? w _ y3)).trans y3
        replace y4 := (hb.cell (World.block_lt_of_cell? w _ y4)).trans y4
        have hlt' : decide ((i : Int) < (N : Int)) = true := decide_eq_true (by omega)
        obtain ⟨P, hP⟩ : ∃ P, isPrinted s.f2 = P := ⟨_, rfl⟩
        obtain ⟨NM, hNM⟩ : ∃ P, isName s.f1 = P := ⟨_, rfl⟩
        obtain ⟨FB, hFB⟩ : ∃ P, forbOf s.f1 = P := ⟨_, rfl⟩
        have HPc := Lib.hid (printed_calls s.f2 (by omega) P hP)
        have HNc := Lib.hid (name_calls s.f1 (by omega) NM hNM)
        have HFc := Lib.hid (forb_calls s.f1 (by omega) FB hFB)
        have HP' := Lib.hid hP
        have HNM := Lib.hid hNM
        have HFB := Lib.hid hFB
        have HS := Lib.hid (show xs[i]? = some s by rw [List.getElem?_eq_getElem hlx, hs])
        have HX := Lib.hid (Below.refl wr.heap.size wr)
        clear hb hs hrd hsm hP hNM hFB hlx
        by_cases c1 : s.f0 < 0
        · go_wp2_with (first
            | (go_at_call 21; refine (HPc.out _).mono ?_; rintro e w' ⟨rfl, ⟨n, rfl⟩⟩)
            | (go_at_call 10; refine (HNc.out _).mono ?_; rintro e w' ⟨rfl, ⟨n, rfl⟩⟩)
            | (go_at_call 11; refine (HFc.out _).mono ?_; rintro e w3 ⟨rfl, hb3⟩; have HX3 := Lib.hid (below_step (by repeat (first | (with_reducible first | exact HX.out | apply below_alloc | apply pw_below_drewN | apply below_drew1) | exact HX.out)) hb3); clear HX hb3; have HX := HX3; clear HX3))
          all_goals (
            go_ret
            exact ⟨rfl, (HM.out.step (by repeat (first | (with_reducible first | exact HX.out | apply below_alloc | apply pw_below_drewN | apply below_drew1) | exact HX.out))).b⟩)
        by_cases c2 : 3 < s.f0
        · go_wp2_with (first
            | (go_at_call 21; refine (HPc.out _).mono ?_; rintro e w' ⟨rfl, ⟨n, rfl⟩⟩)
            | (go_at_call 10; refine (HNc.out _).mono ?_; rintro e w' ⟨rfl, ⟨n, rfl⟩⟩)
            | (go_at_call 11; refine (HFc.out _).mono ?_; rintro e w3 ⟨rfl, hb3⟩; have HX3 := Lib.hid (below_step (by repeat (first | (with_reducible first | exact HX.out | apply below_alloc | apply pw_below_drewN | apply below_drew1) | exact HX.out)) hb3); clear HX hb3; have HX := HX3; clear HX3))
          all_goals (
            go_ret
            exact ⟨rfl, (HM.out.step (by repeat (first | (with_reducible first | exact HX.out | apply below_alloc | apply pw_below_drewN | apply below_drew1) | exact HX.out))).b⟩)
        cases P with
        | false =>
          go_wp2_with (first
            | (go_at_call 21; refine (HPc.out _).mono ?_; rintro e w' ⟨rfl, ⟨n, rfl⟩⟩)
            | (go_at_call 10; refine (HNc.out _).mono ?_; rintro e w' ⟨rfl, ⟨n, rfl⟩⟩)
            | (go_at_call 11; refine (HFc.out _).mono ?_; rintro e w3 ⟨rfl, hb3⟩; have HX3 := Lib.hid (below_step (by repeat (first | (with_reducible first | exact HX.out | apply below_alloc | apply pw_below_drewN | apply below_drew1) | exact HX.out)) hb3); clear HX hb3; have HX := HX3; clear HX3))
          all_goals (
            go_ret
            exact ⟨rfl, (HM.out.step (by repeat (first | (with_reducible first | exact HX.out | apply below_alloc | apply pw_below_drewN | apply below_drew1) | exact HX.out))).b⟩)
        | true =>
        by_cases c3 : 200 < s.f2.size
        · go_wp2_with (first
            | (go_at_call 21; refine (HPc.out _).mono ?_; rintro e w' ⟨rfl, ⟨n, rfl⟩⟩)
            | (go_at_call 10; refine (HNc.out _).mono ?_; rintro e w' ⟨rfl, ⟨n, rfl⟩⟩)
            | (go_at_call 11; refine (HFc.out _).mono ?_; rintro e w3 ⟨rfl, hb3⟩; have HX3 := Lib.hid (below_step (by repeat (first | (with_reducible first | exact HX.out | apply below_alloc | apply pw_below_drewN | apply below_drew1) | exact HX.out)) hb3); clear HX hb3; have HX := HX3; clear HX3))
          all_goals (
            go_ret
            exact ⟨rfl, (HM.out.step (by repeat (first | (with_reducible first | exact HX.out | apply below_alloc | apply pw_below_drewN | apply below_drew1) | exact HX.out))).b⟩)
        cases FB with
        | true =>
          have hok : okPlay s := ⟨.inr HFB.out, ⟨by omega, by omega⟩, by omega⟩
          have HOK2 := Lib.hid hok
          clear hok
          go_upto_region 16 with (first
            | (go_at_call 21; refine (HPc.out _).mono ?_; rintro e w' ⟨rfl, ⟨n, rfl⟩⟩)
            | (go_at_call 10; refine (HNc.out _).mono ?_; rintro e w' ⟨rfl, ⟨n, rfl⟩⟩)
            | (go_at_call 11; refine (HFc.out _).mono ?_; rintro e w3 ⟨rfl, hb3⟩; have hx0 : w3.cell? ⟨wr.heap.size, 0, none⟩ = some (.int .i64 s.f0) := (hb3.cell (p := ⟨wr.heap.size, 0, none⟩) (by first | (simp; done) | (simp; omega) | exact World.block_lt_of_cell? _ _ hx0)).trans (by first | exact hx0 | (go_simp; done) | (go_simp; rfl)); have hx1 : w3.cell? ⟨wr.heap.size, 1, none⟩ = some (.string s.f1) := (hb3.cell (p := ⟨wr.heap.size, 1, none⟩) (by first | (simp; done) | (simp; omega) | exact World.block_lt_of_cell? _ _ hx1)).trans (by first | exact hx1 | (go_simp; done) | (go_simp; rfl)); have hx2 : w3.cell? ⟨wr.heap.size, 2, none⟩ = some (.string s.f2) := (hb3.cell (p := ⟨wr.heap.size, 2, none⟩) (by first | (simp; done) | (simp; omega) | exact World.block_lt_of_cell? _ _ hx2)).trans (by first | exact hx2 | (go_simp; done) | (go_simp; rfl)); have hx3 : w3.cell? ⟨wr.heap.size, 3, none⟩ = some (.int .i64 s.f3) := (hb3.cell (p := ⟨wr.heap.size, 3, none⟩) (by first | (simp; done) | (simp; omega) | exact World.block_lt_of_cell? _ _ hx3)).trans (by first | exact hx3 | (go_simp; done) | (go_simp; rfl)); have hx4 : w3.cell? ⟨wr.heap.size, 4, none⟩ = some (.int .i64 s.f4) := (hb3.cell (p := ⟨wr.heap.size, 4, none⟩) (by first | (simp; done) | (simp; omega) | exact World.block_lt_of_cell? _ _ hx4)).trans (by first | exact hx4 | (go_simp; done) | (go_simp; rfl)); have HX3 := Lib.hid (below_step (by repeat (first | (with_reducible first | exact HX.out | apply below_alloc | apply pw_below_drewN | apply below_drew1) | exact HX.out)) hb3); clear HX hb3; have HX := HX3; clear HX3))
          all_goals (
            go_wp2_with (first | (
              at_builtin
              refine Kd.R_append Kd.string (w0 := w) w.heap.size rfl (.tmp 94) (.tmp 95) 22 9 (.string ⟨#[]⟩) 16 rfl Try.underlying22 info9 rfl (by decide) (by omega) _ want (⟨#[]⟩ : ByteArray) [.string (⟨#[]⟩ : ByteArray)] (fun _ => True) (fun _ => False) rfl (by first | (go_simp; done) | (go_simp; rfl)) ?aP (fun _ hk => hk.elim) ?aF ?aO ?aB ?aS ?aL ?_
              (case aP => exact rfl)
              (case aF => exact fun _ _ => trivial)
              (case aO => exact (HM.out.step (by repeat (first | (with_reducible first | exact HX.out | apply below_alloc | apply pw_below_drewN | apply below_drew1) | exact HX.out))).s)
              (case aB => exact (HM.out.step (by repeat (first | (with_reducible first | exact HX.out | apply below_alloc | apply pw_below_drewN | apply below_drew1) | exact HX.out))).b)
              (case aS => exact (HM.out.step (by repeat (first | (with_reducible first | exact HX.out | apply below_alloc | apply pw_below_drewN | apply below_drew1) | exact HX.out))).b.size)
              (case aL => have := HM.out.wl; omega)
              intro v9 w9 ho9 hb9 hg9 hat9
              have M9 := Lib.hid ((HM.out.step (by repeat (first | (with_reducible first | exact HX.out | apply below_alloc | apply pw_below_drewN | apply below_drew1) | exact HX.out))).put ho9 hb9 hg9)
              clear ho9 hb9 hg9 hat9))
            have hts := take_snoc HS.out
            exact ⟨⟨i + 1, H, want ++ [⟨#[]⟩], by simp, by omega, Lib.hid (by rw [hts]; exact playF_forb s HFB.out _ _ _ _ HPF.out), Lib.hid (by rw [hts]; intro x hx; rcases List.mem_append.1 hx with hx | hx; exact HOK.out x hx; rw [List.mem_singleton] at hx; rw [hx]; exact HOK2.out), Lib.hid (M9.out.more (by omega))⟩, by simp [intOf]; omega⟩)
        | false =>
          cases NM with
          | false =>
            go_wp2_with (first
              | (go_at_call 21; refine (HPc.out _).mono ?_; rintro e w' ⟨rfl, ⟨n, rfl⟩⟩)
              | (go_at_call 10; refine (HNc.out _).mono ?_; rintro e w' ⟨rfl, ⟨n, rfl⟩⟩)
              | (go_at_call 11; refine (HFc.out _).mono ?_; rintro e w3 ⟨rfl, hb3⟩; have HX3 := Lib.hid (below_step (by repeat (first | (with_reducible first | exact HX.out | apply below_alloc | apply pw_below_drewN | apply below_drew1) | exact HX.out)) hb3); clear HX hb3; have HX := HX3; clear HX3))
            all_goals (
              go_ret
              exact ⟨rfl, (HM.out.step (by repeat (first | (with_reducible first | exact HX.out | apply below_alloc | apply pw_below_drewN | apply below_drew1) | exact HX.out))).b⟩)
          | true =>
            have hok : okPlay s := ⟨.inl HNM.out, ⟨by omega, by omega⟩, by omega⟩
            have HOK2 := Lib.hid hok
            clear hok
            cases hm : modelP H s.f0 (strOfNums (nk (ns s.f1))) s.f2 with
            | none =>
              have HMD := Lib.hid (fun W (h : MidP w i i u6 u7 H want W) => model_none h s (by omega) (by omega) hm)
              clear hm
              go_wp2_with (first
                | (go_at_call 21; refine (HPc.out _).mono ?_; rintro e w' ⟨rfl, ⟨n, rfl⟩⟩)
                | (go_at_call 10; refine (HNc.out _).mono ?_; rintro e w' ⟨rfl, ⟨n, rfl⟩⟩)
                | (go_at_call 11; refine (HFc.out _).mono ?_; rintro e w3 ⟨rfl, hb3⟩; have hx0 : w3.cell? ⟨wr.heap.size, 0, none⟩ = some (.int .i64 s.f0) := (hb3.cell (p := ⟨wr.heap.size, 0, none⟩) (by first | (simp; done) | (simp; omega) | exact World.block_lt_of_cell? _ _ hx0)).trans (by first | exact hx0 | (go_simp; done) | (go_simp; rfl)); have hx1 : w3.cell? ⟨wr.heap.size, 1, none⟩ = some (.string s.f1) := (hb3.cell (p := ⟨wr.heap.size, 1, none⟩) (by first | (simp; done) | (simp; omega) | exact World.block_lt_of_cell? _ _ hx1)).trans (by first | exact hx1 | (go_simp; done) | (go_simp; rfl)); have hx2 : w3.cell? ⟨wr.heap.size, 2, none⟩ = some (.string s.f2) := (hb3.cell (p := ⟨wr.heap.size, 2, none⟩) (by first | (simp; done) | (simp; omega) | exact World.block_lt_of_cell? _ _ hx2)).trans (by first | exact hx2 | (go_simp; done) | (go_simp; rfl)); have hx3 : w3.cell? ⟨wr.heap.size, 3, none⟩ = some (.int .i64 s.f3) := (hb3.cell (p := ⟨wr.heap.size, 3, none⟩) (by first | (simp; done) | (simp; omega) | exact World.block_lt_of_cell? _ _ hx3)).trans (by first | exact hx3 | (go_simp; done) | (go_simp; rfl)); have hx4 : w3.cell? ⟨wr.heap.size, 4, none⟩ = some (.int .i64 s.f4) := (hb3.cell (p := ⟨wr.heap.size, 4, none⟩) (by first | (simp; done) | (simp; omega) | exact World.block_lt_of_cell? _ _ hx4)).trans (by first | exact hx4 | (go_simp; done) | (go_simp; rfl)); have HX3 := Lib.hid (below_step (by repeat (first | (with_reducible first | exact HX.out | apply below_alloc | apply pw_below_drewN | apply below_drew1) | exact HX.out)) hb3); clear HX hb3; have HX := HX3; clear HX3)
                | (go_at_call 22; refine (HMD.out _ (HM.out.step (by repeat (first | (with_reducible first | exact HX.out | apply below_alloc | apply pw_below_drewN | apply below_drew1) | exact HX.out)))).mono ?_; rintro e w4 ⟨v0, A4, n4, c4, A5, n5, c5, rfl, hb4⟩; have HB4 := Lib.hid hb4; clear hb4))
              go_ret
              exact ⟨rfl, by repeat (first | (with_reducible first | exact HB4.out | apply below_alloc | apply pw_below_drewN | apply below_drew1) | exact HB4.out)⟩
            | some y =>
              obtain ⟨H1, T, AA⟩ := y
              have HMD := Lib.hid (fun W (h : MidP w i i u6 u7 H want W) => model_some h s (by omega) (by omega) hm)
              have HMM := Lib.hid hm
              clear hm
              go_upto_region 21 with (first
                | (go_at_call 21; refine (HPc.out _).mono ?_; rintro e w' ⟨rfl, ⟨n, rfl⟩⟩)
                | (go_at_call 10; refine (HNc.out _).mono ?_; rintro e w' ⟨rfl, ⟨n, rfl⟩⟩)
                | (go_at_call 11; refine (HFc.out _).mono ?_; rintro e w3 ⟨rfl, hb3⟩; have hx0 : w3.cell? ⟨wr.heap.size, 0, none⟩ = some (.int .i64 s.f0) := (hb3.cell (p := ⟨wr.heap.size, 0, none⟩) (by first | (simp; done) | (simp; omega) | exact World.block_lt_of_cell? _ _ hx0)).trans (by first | exact hx0 | (go_simp; done) | (go_simp; rfl)); have hx1 : w3.cell? ⟨wr.heap.size, 1, none⟩ = some (.string s.f1) := (hb3.cell (p := ⟨wr.heap.size, 1, none⟩) (by first | (simp; done) | (simp; omega) | exact World.block_lt_of_cell? _ _ hx1)).trans (by first | exact hx1 | (go_simp; done) | (go_simp; rfl)); have hx2 : w3.cell? ⟨wr.heap.size, 2, none⟩ = some (.string s.f2) := (hb3.cell (p := ⟨wr.heap.size, 2, none⟩) (by first | (simp; done) | (simp; omega) | exact World.block_lt_of_cell? _ _ hx2)).trans (by first | exact hx2 | (go_simp; done) | (go_simp; rfl)); have hx3 : w3.cell? ⟨wr.heap.size, 3, none⟩ = some (.int .i64 s.f3) := (hb3.cell (p := ⟨wr.heap.size, 3, none⟩) (by first | (simp; done) | (simp; omega) | exact World.block_lt_of_cell? _ _ hx3)).trans (by first | exact hx3 | (go_simp; done) | (go_simp; rfl)); have hx4 : w3.cell? ⟨wr.heap.size, 4, none⟩ = some (.int .i64 s.f4) := (hb3.cell (p := ⟨wr.heap.size, 4, none⟩) (by first | (simp; done) | (simp; omega) | exact World.block_lt_of_cell? _ _ hx4)).trans (by first | exact hx4 | (go_simp; done) | (go_simp; rfl)); have HX3 := Lib.hid (below_step (by repeat (first | (with_reducible first | exact HX.out | apply below_alloc | apply pw_below_drewN | apply below_drew1) | exact HX.out)) hb3); clear HX hb3; have HX := HX3; clear HX3)
                | (go_at_call 22; refine (HMD.out _ (HM.out.step (by repeat (first | (with_reducible first | exact HX.out | apply below_alloc | apply pw_below_drewN | apply below_drew1) | exact HX.out)))).mono ?_; rintro e w4 ⟨v0, A4, n4, c4, A5, n5, c5, rfl, hb4⟩; have M4 := Lib.hid hb4; clear hb4))
              go_wp2_with (first | (
                at_builtin
                refine Kd.R_append Kd.string (w0 := w) w.heap.size rfl (.tmp 107) (.tmp 110) 22 9 (.string ⟨#[]⟩) 16 rfl Try.underlying22 info9 rfl (by decide) (by omega) _ want T [.string T] (fun _ => True) (fun _ => False) rfl (by first | (go_simp; done) | (go_simp; rfl)) ?aP (fun _ hk => hk.elim) ?aF ?aO ?aB ?aS ?aL ?_
                (case aP => exact rfl)
                (case aF => exact fun _ _ => trivial)
                (case aO => exact (M4.out.step (by repeat (first | (with_reducible first | exact Below.refl _ _ | apply below_alloc | apply pw_below_drewN | apply below_drew1) | exact Below.refl _ _))).s)
                (case aB => exact (M4.out.step (by repeat (first | (with_reducible first | exact Below.refl _ _ | apply below_alloc | apply pw_below_drewN | apply below_drew1) | exact Below.refl _ _))).b)
                (case aS => exact (M4.out.step (by repeat (first | (with_reducible first | exact Below.refl _ _ | apply below_alloc | apply pw_below_drewN | apply below_drew1) | exact Below.refl _ _))).b.size)
                (case aL => have := HM.out.wl; omega)
                intro v9 w9 ho9 hb9 hg9 hat9
                have M9 := Lib.hid ((M4.out.step (by repeat (first | (with_reducible first | exact Below.refl _ _ | apply below_alloc | apply pw_below_drewN | apply below_drew1) | exact Below.refl _ _))).put ho9 hb9 hg9)
                clear ho9 hb9 hg9 hat9))
              have hts := take_snoc HS.out
              exact ⟨⟨i + 1, H1, want ++ [T], by simp, by omega, Lib.hid (by rw [hts]; exact playF_name s HFB.out HMM.out _ _ _ HPF.out), Lib.hid (by rw [hts]; intro x hx; rcases List.mem_append.1 hx with hx | hx; exact HOK.out x hx; rw [List.mem_singleton] at hx; rw [hx]; exact HOK2.out), Lib.hid M9.out⟩, by simp [intOf]; omega⟩
      · obtain rfl : i = N := by omega
        have hxN : xs.take i = xs := List.take_of_length_le (by have := HN.out; omega)
        rw [hxN] at HPF HOK
        obtain ⟨T2, x2, wl2, al2, hl2⟩ := played_script xs H want (by have := HN.out; omega) HOK.out HPF.out ⟨7, ⟨#[]⟩, ⟨#[]⟩, 0, 0⟩ rfl (by decide) (by decide)
        obtain ⟨s7, hs7⟩ : ∃ s7 : Step, ⟨7, ⟨#[]⟩, ⟨#[]⟩, 0, 0⟩ = s7 := ⟨_, rfl⟩
        obtain ⟨L2, hL2⟩ : ∃ L2, wants xs want ++ [⟨⟨#[]⟩, false, 0, [], H⟩] = L2 := ⟨_, rfl⟩
        have hL2l : L2.length = i + 1 := by rw [← hL2, List.length_append, List.length_singleton, al2, HN.out]
        obtain ⟨Aw, cw, rfl, hcw, hCw⟩ := Kd.R_reads HM.out.s
        obtain ⟨Ah, ch, rfl, hch, hCh⟩ := Kd.R_reads HM.out.r
        have HCW := Lib.hid hCw
        have HCH := Lib.hid hCh
        have HCH2 := Lib.hid hch
        rw [hs7, hL2] at x2
        have X2 := Lib.hid x2
        have HL2 := Lib.hid hL2
        have HL2l := Lib.hid hL2l
        have HWL := Lib.hid wl2
        have HAL := Lib.hid al2
        have HHL := Lib.hid hl2
        have HS7 := Lib.hid hs7
        clear x2 hxN wl2 al2 hl2 hs7 hL2 hL2l hcw hCw hch hCh
        go_wp2_with (first
          | (at_builtin
             refine Kd.R_append_rows k28 (w0 := wr) wr.heap.size rfl (.tmp 114) (.tmp 115) 29 28 (.agg #[(.int .i64 0), (.string ⟨#[]⟩), (.string ⟨#[]⟩), (.int .i64 0), (.int .i64 0)]) 56 rfl Try.underlying29 info28 rfl (by decide) (by omega) _ [] xs _ _ _ (fun _ => True) (fun _ => False) rfl rfl ?aO ?aR (fun _ _ h => h) (fun _ h => h.elim) ?aF ?aB ?aS ?aL ?_
             (case aO => exact steps_R wr [] (by decide))
             (case aR => have q_ := HR.out; rw [HN.out] at q_; exact Kd.C_alloc (Kd.C_below q_ HM.out.b) _)
             (case aF => exact fun _ _ => trivial)
             (case aB => exact (Below.refl _ _).alloc (Nat.le_refl _) _)
             (case aS => first | (simp; done) | (simp; omega))
             (case aL => first | omega | (simp; omega))
             intro v8 w8 ho8 hb8 hg8 hat8
             simp only [List.nil_append] at ho8
             have O8 := Lib.hid ho8
             have B8 := Lib.hid hb8
             clear ho8 hb8 hg8 hat8)
          | (at_builtin
             refine Kd.R_append k28 (w0 := wr) wr.heap.size rfl (.tmp 116) (.tmp 118) 29 28 (.agg #[(.int .i64 0), (.string ⟨#[]⟩), (.string ⟨#[]⟩), (.int .i64 0), (.int .i64 0)]) 56 rfl Try.underlying29 info28 rfl (by decide) (by omega) _ xs (⟨7, ⟨#[]⟩, ⟨#[]⟩, 0, 0⟩ : Step) [.int .i64 7, .string ⟨#[]⟩, .string ⟨#[]⟩, .int .i64 0, .int .i64 0] (fun _ => True) (fun _ => False) rfl (by first | (go_simp; done) | (go_simp; rfl)) ?aP (fun _ hk => hk.elim) ?aF ?aO ?aB ?aS ?aL ?_
             (case aP => exact k28_mkM _ _ _ (⟨7, ⟨#[]⟩, ⟨#[]⟩, 0, 0⟩ : Step))
             (case aF => exact fun _ _ => trivial)
             (case aO => exact O8.out)
             (case aB => exact B8.out)
             (case aS => exact B8.out.size)
             (case aL => have := HN.out; omega)
             intro v9 w9 ho9 hb9 hg9 hat9
             rw [HS7.out] at ho9
             have O9 := Lib.hid ho9
             have B9 := Lib.hid hb9
             clear ho9 hb9 hg9 hat9)
          | (go_at_call 9
             refine (script_at O9.out X2.out HL2l.out).mono ?_
             rintro e w10 ⟨A5, c5, rfl, hC5, hb5⟩
             have C5 := Lib.hid hC5
             have B5 := Lib.hid (below_weaken B9.out B9.out.size hb5)
             clear hC5 hb5))
        go_loopw [136] (fun iv wx => ∃ (j : Nat), iv = .int .i64 j ∧ j ≤ i ∧ Hid (Below w10.heap.size w10 wx)) (fun iv _ => i - (intOf iv).toNat)
        case atStart => exact ⟨0, rfl, by omega, Lib.hid (Below.refl _ _)⟩
        case round =>
          obtain ⟨j, rfl, hji, HBX⟩ := hrel
          by_cases hlt : j < i
          · have hlx : j < xs.length := by have := HN.out; omega
            obtain ⟨s, hs⟩ : ∃ s, xs[j] = s := ⟨_, rfl⟩
            have hrd : rd_T28 xs (j : Int) = s := by rw [rdStep_nat _ _ hlx, hs]
            have hsm : s ∈ xs := by rw [← hs]; exact List.getElem_mem hlx
            have hjw : j < want.length := by have := HWL.out; omega
            obtain ⟨t, ht⟩ : ∃ t, want[j] = t := ⟨_, rfl⟩
            have hans : rd_T32 L2 (j : Int) = ⟨t, decide (s.f0 < 2) && !forbOf s.f1, 0, [], []⟩ := by
              have q_ := wants_at xs want j s t (by rw [List.getElem?_eq_getElem hlx, hs]) (by rw [List.getElem?_eq_getElem hjw, ht])
              unfold rd_T32
              rw [List.getD_eq_getElem?_getD, Int.toNat_natCast, ← HL2.out, List.getElem?_append_left (by rw [HAL.out]; exact hlx), q_]; rfl
            have hrw : rdOf ByteArray.empty want (j : Int) = t := by
              unfold rdOf
              rw [Int.toNat_natCast, List.getD_eq_getElem?_getD, List.getElem?_eq_getElem hjw, ht]; rfl
            obtain ⟨z1, z2⟩ := HFT.out s hsm
            have hbw := HM.out.b.trans (below_weaken_t HM.out.b.size (B5.out.trans (below_weaken_t B5.out.size HBX.out)))
            obtain ⟨ad, e0, y0, y1, y2, y3, y4⟩ := at_T28 HR.out (j : Int) (by omega) (by omega)
            obtain ⟨ae, _, _, _, _, e1, v0, v1, _⟩ := at_T32 C5.out (j : Int) (by omega) (by omega)
            obtain ⟨aw, e2, u0⟩ := Kd.at_string HCW.out (j : Int) (by omega) (by omega)
            cases e0
            cases e1
            cases e2
            rw [hrd] at y0 y1 y2 y3 y4
            rw [hans] at v0 v1
            rw [hrw] at u0
            simp only [Int.toNat_natCast] at y0 y1 y2 y3 y4 v0 v1 u0
            replace y0 := (hbw.cell (World.block_lt_of_cell? w _ y0)).trans y0
            replace y1 := (hbw.cell (World.block_lt_of_cell? w _ y1)).trans y1
            replace y2 := (hbw.cell (World.block_lt_of_cell? w _ y2)).trans y2
            replace y3 := (hbw.cell (World.block_lt_of_cell? w _ y3)).trans y3
            replace y4 := (hbw.cell (World.block_lt_of_cell? w _ y4)).trans y4
            have hlt' : decide ((j : Int) < (i : Int)) = true := decide_eq_true (by omega)
            have hbx := HBX.out
            replace v0 := (hbx.cell (World.block_lt_of_cell? _ _ v0)).trans v0
            replace v1 := (hbx.cell (World.block_lt_of_cell? _ _ v1)).trans v1
            have hbr := B5.out.trans (below_weaken_t B5.out.size hbx)
            replace u0 := (hbr.cell (World.block_lt_of_cell? _ _ u0)).trans u0
            obtain ⟨FB, hFB⟩ : ∃ P, forbOf s.f1 = P := ⟨_, rfl⟩
            have HFc := Lib.hid (forb_calls s.f1 (by omega) FB hFB)
            have HY := Lib.hid (Below.refl wr.heap.size wr)
            rw [hFB] at v1
            have hl1 : (j : Int) < (i : Int) + 1 := by omega
            have hl2 : (j : Int) < (want.length : Int) := by omega
            obtain ⟨W1, hW1⟩ : ∃ X, wr.alloc (.cells #[.int .i64 s.f0, .string s.f1, .string s.f2, .int .i64 s.f3, .int .i64 s.f4] 28) = X := ⟨_, rfl⟩
            have hb1 : Below wr.heap.size wr W1 := by rw [← hW1]; exact (Below.refl _ _).alloc (Nat.le_refl _) _
            have q0 : W1.cell? ⟨wr.heap.size, 0, none⟩ = some (.int .i64 s.f0) := (cell_of_row W1 wr.heap.size 0 _ _ (0, 0) (by rw [← hW1]; exact heap_alloc_new _ _)).trans rfl
            have q1 : W1.cell? ⟨wr.heap.size, 1, none⟩ = some (.string s.f1) := (cell_of_row W1 wr.heap.size 1 _ _ (0, 0) (by rw [← hW1]; exact heap_alloc_new _ _)).trans rfl
            have v0' := (hb1.cell (World.block_lt_of_cell? _ _ v0)).trans v0
            have v1' := (hb1.cell (World.block_lt_of_cell? _ _ v1)).trans v1
            have u0' := (hb1.cell (World.block_lt_of_cell? _ _ u0)).trans u0
            have HW1 := Lib.hid hW1
            have HB1 := Lib.hid hb1
            have HSJ := Lib.hid (show xs[j]? = some s by rw [List.getElem?_eq_getElem hlx, hs])
            clear hbw hbx hbr hs hrd hsm hFB hlx hjw ht hans hrw hW1 hb1 v0 v1 u0
            have hd3 : 0 ≤ s.f0 ∧ s.f0 ≤ 3 := (HOK.out s (List.mem_of_getElem? HSJ.out)).2.1
            have c2 : s.f0 < 2 ∨ s.f0 = 2 ∨ s.f0 = 3 := by omega
            clear hd3
            rcases c2 with c2 | c2 | c2
            · have d1 : decide (s.f0 < 2) = true := decide_eq_true c2
              rw [d1] at v1'
              have d3 : (s.f0 == 3) = false := by rw [beq_eq_false_iff_ne]; omega
              have d3' : decide (s.f0 = 3) = false := decide_eq_false (by omega)
              have d4 : ¬ s.f0 = 3 := by omega
              obtain ⟨NB, hNB⟩ : ∃ b, (!FB) = b := ⟨_, rfl⟩
              have v2' : W1.cell? ⟨(ae.add (j * 5)).block, (ae.add (j * 5)).off + 1, none⟩ = some (.bool NB) := by rw [← hNB]; exact v1'
              have dn : (NB == FB) = false := by rw [← hNB]; cases FB <;> decide
              have dn' : decide (NB = FB) = false := by rw [← hNB]; cases FB <;> decide
              clear v1' hNB
              go_wp2
              rw [HW1.out]
              refine start_ (n := 31) (S := fun w' => w'.cell? ⟨wr.heap.size, 0, none⟩ = some (.int .i64 s.f0) ∧ w'.cell? ⟨wr.heap.size, 1, none⟩ = some (.string s.f1) ∧ w'.cell? ⟨(ae.add (j * 5)).block, (ae.add (j * 5)).off + 1, none⟩ = some (.bool NB)) (ds := []) #[false,false,false,false,false,false,false,false,false,false,false,false,false,false,false,false,false,false,false,false,false,false,false,false,false,false,false,false,false,false,false] (by kernel_rfl) rfl rfl ⟨q0, q1, v2'⟩ (fun hHeld => ?_)
              generalize hWd : World.drew W1 = W2_ at hHeld ⊢
              refine pure_ (i := 0) (N := some 141) (v := ?_) (a' := ?_) #[true,false,false,false,false,false,false,false,false,false,false,false,false,false,false,false,false,false,false,false,false,false,false,false,false,false,false,false,false,false,false] rfl rfl (by kernel_rfl) (fun _ _ _ h => h) (Or.inl ⟨by rfl, ?_⟩) ?_ ?_
              rotate_left
              · intro w'
                go_simp
                with_reducible rfl
              rotate_left
              · simp only [Act.put, List.setIfInBounds_toArray, List.set_cons_zero, List.set_cons_succ, i64_w, i32_w]
                rfl
              refine take_ (i := 1) (N := some 142) (v := ?_) (a' := ?_) #[true,true,false,false,false,false,false,false,false,false,false,false,false,false,false,false,false,false,false,false,false,false,false,false,false,false,false,false,false,false,false] rfl rfl (by kernel_rfl) (fun _ _ _ h => h) (Or.inl ⟨by rfl, ?_⟩) hHeld ?_ ?_
              rotate_left
              · rintro w' ⟨s0, s1, s2⟩
                go_simp
                with_reducible rfl
              rotate_left
              · simp only [Act.put, List.setIfInBounds_toArray, List.set_cons_zero, List.set_cons_succ, i64_w, i32_w]
                rfl
              refine pure_ (i := 2) (N := some 143) (v := ?_) (a' := ?_) #[true,true,true,false,false,false,false,false,false,false,false,false,false,false,false,false,false,false,false,false,false,false,false,false,false,false,false,false,false,false,false] rfl rfl (by kernel_rfl) (fun _ _ _ h => h) (Or.inl ⟨by rfl, ?_⟩) ?_ ?_
              rotate_left
              · intro w'
                go_simp
                with_reducible rfl
              rotate_left
              · simp only [Act.put, List.setIfInBounds_toArray, List.set_cons_zero, List.set_cons_succ, i64_w, i32_w]
                rfl
              refine pure_ (i := 3) (N := some 144) (v := ?_) (a' := ?_) #[true,true,true,true,false,false,false,false,false,false,false,false,false,false,false,false,false,false,false,false,false,false,false,false,false,false,false,false,false,false,false] rfl rfl (by kernel_rfl) (fun _ _ _ h => h) (Or.inl ⟨by rfl, ?_⟩) ?_ ?_
              rotate_left
              · intro w'
                go_simp
                with_reducible rfl
              rotate_left
              · simp only [Act.put, List.setIfInBounds_toArray, List.set_cons_zero, List.set_cons_succ, i64_w, i32_w]
                rfl
              refine pure_ (i := 4) (N := some 145) (v := ?_) (a' := ?_) #[true,true,true,true,true,false,false,false,false,false,false,false,false,false,false,false,false,false,false,false,false,false,false,false,false,false,false,false,false,false,false] rfl rfl (by kernel_rfl) (fun _ _ _ h => h) (Or.inl ⟨by rfl, ?_⟩) ?_ ?_
              rotate_left
              · intro w'
                go_simp
                with_reducible rfl
              rotate_left
              · simp only [Act.put, List.setIfInBounds_toArray, List.set_cons_zero, List.set_cons_succ, i64_w, i32_w]
                rfl
              refine pure_ (i := 5) (N := some 146) (v := ?_) (a' := ?_) #[true,true,true,true,true,true,false,false,false,false,false,false,false,false,false,false,false,false,false,false,false,false,false,false,false,false,false,false,false,false,false] rfl rfl (by kernel_rfl) (fun _ _ _ h => h) (Or.inl ⟨by rfl, ?_⟩) ?_ ?_
              rotate_left
              · intro w'
                go_simp
                with_reducible rfl
              rotate_left
              · simp only [Act.put, List.setIfInBounds_toArray, List.set_cons_zero, List.set_cons_succ, i64_w, i32_w]
                rfl
              refine pure_ (i := 6) (N := some 147) (v := ?_) (a' := ?_) #[true,true,true,true,true,true,true,false,false,false,false,false,false,false,false,false,false,false,false,false,false,false,false,false,false,false,false,false,false,false,false] rfl rfl (by kernel_rfl) (fun _ _ _ h => h) (Or.inl ⟨by rfl, ?_⟩) ?_ ?_
              rotate_left
              · intro w'
                go_simp
                with_reducible rfl
              rotate_left
              · simp only [Act.put, List.setIfInBounds_toArray, List.set_cons_zero, List.set_cons_succ, i64_w, i32_w]
                rfl
              refine pure_ (i := 7) (N := some 148) (v := ?_) (a' := ?_) #[true,true,true,true,true,true,true,true,false,false,false,false,false,false,false,false,false,false,false,false,false,false,false,false,false,false,false,false,false,false,false] rfl rfl (by kernel_rfl) (fun _ _ _ h => h) (Or.inl ⟨by rfl, ?_⟩) ?_ ?_
              rotate_left
              · intro w'
                go_simp
                with_reducible rfl
              rotate_left
              · simp only [Act.put, List.setIfInBounds_toArray, List.set_cons_zero, List.set_cons_succ, i64_w, i32_w]
                rfl
              refine pure_ (i := 9) (N := some 150) (v := ?_) (a' := ?_) #[true,true,true,true,true,true,true,true,false,true,false,false,false,false,false,false,false,false,false,false,false,false,false,false,false,false,false,false,false,false,false] rfl rfl (by kernel_rfl) (fun _ _ _ h => h) (Or.inl ⟨by rfl, ?_⟩) ?_ ?_
              rotate_left
              · intro w'
                go_simp
                with_reducible rfl
              rotate_left
              · simp only [Act.put, List.setIfInBounds_toArray, List.set_cons_zero, List.set_cons_succ, i64_w, i32_w]
                rfl
              refine take_ (i := 8) (N := some 149) (v := ?_) (a' := ?_) #[true,true,true,true,true,true,true,true,true,true,false,false,false,false,false,false,false,false,false,false,false,false,false,false,false,false,false,false,false,false,false] rfl rfl (by kernel_rfl) (fun _ _ _ h => h) (Or.inl ⟨by rfl, ?_⟩) hHeld ?_ ?_
              rotate_left
              · rintro w' ⟨s0, s1, s2⟩
                go_simp
                with_reducible rfl
              rotate_left
              · simp only [Act.put, List.setIfInBounds_toArray, List.set_cons_zero, List.set_cons_succ, i64_w, i32_w]
                rfl
              refine take_ (i := 10) (N := some 151) (v := ?_) (a' := ?_) #[true,true,true,true,true,true,true,true,true,true,true,false,false,false,false,false,false,false,false,false,false,false,false,false,false,false,false,false,false,false,false] rfl rfl (by kernel_rfl) (fun _ _ _ h => h) (Or.inl ⟨by rfl, ?_⟩) hHeld ?_ ?_
              rotate_left
              · rintro w' ⟨s0, s1, s2⟩
                go_simp
                with_reducible rfl
              rotate_left
              · simp only [Act.put, List.setIfInBounds_toArray, List.set_cons_zero, List.set_cons_succ, i64_w, i32_w]
                rfl
              refine one_ (i := 11) (N := some 152) #[true,true,true,true,true,true,true,true,true,true,true,true,false,false,false,false,false,false,false,false,false,false,false,false,false,false,false,false,false,false,false] rfl rfl (by kernel_rfl) (by decide) (fun K hK => ?_)
              refine goes_ Try.func11 (by kernel_rfl) rfl #[.string s.f1] (by rfl) rfl rfl (by (try simp only [List.map_toArray, List.map_cons, List.map_nil]); first | done | rfl) ?_
              with_reducible refine (HFc.out _).mono ?_
              rintro e w3 ⟨rfl, hb3⟩
              have HY3 := Lib.hid (show Below W1.heap.size W1 w3 from by rw [← hWd] at hb3; exact (below_drew1 (Below.refl _ _)).trans hb3)
              refine ⟨_, rfl, ?_⟩
              refine hK.out _ _ ⟨(hb3.cell (World.block_lt_of_cell? _ _ (hHeld.1))).trans (hHeld.1), (hb3.cell (World.block_lt_of_cell? _ _ (hHeld.2.1))).trans (hHeld.2.1), (hb3.cell (World.block_lt_of_cell? _ _ (hHeld.2.2))).trans (hHeld.2.2)⟩ (fun hHeld => ?_)
              clear hK K
              refine norm_ (a' := ?_) ?_ ?_
              rotate_left
              · show Act.put _ (some 152) _ = _
                simp only [Act.put, List.setIfInBounds_toArray, List.set_cons_zero, List.set_cons_succ, i64_w, i32_w]
                rfl
              refine pure_ (i := 12) (N := some 153) (v := ?_) (a' := ?_) #[true,true,true,true,true,true,true,true,true,true,true,true,true,false,false,false,false,false,false,false,false,false,false,false,false,false,false,false,false,false,false] rfl rfl (by kernel_rfl) (fun _ _ _ h => h) (Or.inl ⟨by rfl, ?_⟩) ?_ ?_
              rotate_left
              · intro w'
                go_simp
                with_reducible rfl
              rotate_left
              · simp only [Act.put, List.setIfInBounds_toArray, List.set_cons_zero, List.set_cons_succ, i64_w, i32_w]
                rfl
              refine pure_ (i := 13) (N := some 154) (v := ?_) (a' := ?_) #[true,true,true,true,true,true,true,true,true,true,true,true,true,true,false,false,false,false,false,false,false,false,false,false,false,false,false,false,false,false,false] rfl rfl (by kernel_rfl) (fun _ _ _ h => h) (Or.inl ⟨by rfl, ?_⟩) ?_ ?_
              rotate_left
              · intro w'
                go_simp
                with_reducible rfl
              rotate_left
              · simp only [Act.put, List.setIfInBounds_toArray, List.set_cons_zero, List.set_cons_succ, i64_w, i32_w]
                rfl
              refine pure_ (i := 14) (N := some 155) (v := ?_) (a' := ?_) #[true,true,true,true,true,true,true,true,true,true,true,true,true,true,true,false,false,false,false,false,false,false,false,false,false,false,false,false,false,false,false] rfl rfl (by kernel_rfl) (fun _ _ _ h => h) (Or.inl ⟨by rfl, ?_⟩) ?_ ?_
              rotate_left
              · intro w'
                go_simp
                with_reducible rfl
              rotate_left
              · simp only [Act.put, List.setIfInBounds_toArray, List.set_cons_zero, List.set_cons_succ, i64_w, i32_w]
                rfl
              refine pure_ (i := 15) (N := some 156) (v := ?_) (a' := ?_) #[true,true,true,true,true,true,true,true,true,true,true,true,true,true,true,true,false,false,false,false,false,false,false,false,false,false,false,false,false,false,false] rfl rfl (by kernel_rfl) (fun _ _ _ h => h) (Or.inl ⟨by rfl, ?_⟩) ?_ ?_
              rotate_left
              · intro w'
                go_simp
                with_reducible rfl
              rotate_left
              · simp only [Act.put, List.setIfInBounds_toArray, List.set_cons_zero, List.set_cons_succ, i64_w, i32_w]
                rfl
              refine take_ (i := 16) (N := some 157) (v := ?_) (a' := ?_) #[true,true,true,true,true,true,true,true,true,true,true,true,true,true,true,true,true,false,false,false,false,false,false,false,false,false,false,false,false,false,false] rfl rfl (by kernel_rfl) (fun _ _ _ h => h) (Or.inl ⟨by rfl, ?_⟩) hHeld ?_ ?_
              rotate_left
              · rintro w' ⟨s0, s1, s2⟩
                go_simp
                with_reducible rfl
              rotate_left
              · simp only [Act.put, List.setIfInBounds_toArray, List.set_cons_zero, List.set_cons_succ, i64_w, i32_w]
                rfl
              refine pure_ (i := 17) (N := some 158) (v := ?_) (a' := ?_) #[true,true,true,true,true,true,true,true,true,true,true,true,true,true,true,true,true,true,false,false,false,false,false,false,false,false,false,false,false,false,false] rfl rfl (by kernel_rfl) (fun _ _ _ h => h) (Or.inl ⟨by rfl, ?_⟩) ?_ ?_
              rotate_left
              · intro w'
                go_simp
                with_reducible rfl
              rotate_left
              · simp only [Act.put, List.setIfInBounds_toArray, List.set_cons_zero, List.set_cons_succ, i64_w, i32_w]
                rfl
              refine pure_ (i := 18) (N := some 159) (v := ?_) (a' := ?_) #[true,true,true,true,true,true,true,true,true,true,true,true,true,true,true,true,true,true,true,false,false,false,false,false,false,false,false,false,false,false,false] rfl rfl (by kernel_rfl) (fun _ _ _ h => h) (Or.inl ⟨by rfl, ?_⟩) ?_ ?_
              rotate_left
              · intro w'
                go_simp
                with_reducible rfl
              rotate_left
              · simp only [Act.put, List.setIfInBounds_toArray, List.set_cons_zero, List.set_cons_succ, i64_w, i32_w]
                rfl
              refine pure_ (i := 19) (N := some 160) (v := undef) (a' := ?_) #[true,true,true,true,true,true,true,true,true,true,true,true,true,true,true,true,true,true,true,true,false,false,false,false,false,false,false,false,false,false,false] rfl rfl (by kernel_rfl) (fun _ _ _ h => h) (Or.inr ⟨by rfl, rfl⟩) ?_ ?_
              rotate_left
              · simp only [Act.put, List.setIfInBounds_toArray, List.set_cons_zero, List.set_cons_succ, i64_w, i32_w]
                rfl
              refine pure_ (i := 20) (N := some 161) (v := undef) (a' := ?_) #[true,true,true,true,true,true,true,true,true,true,true,true,true,true,true,true,true,true,true,true,true,false,false,false,false,false,false,false,false,false,false] rfl rfl (by kernel_rfl) (fun _ _ _ h => h) (Or.inr ⟨by rfl, rfl⟩) ?_ ?_
              rotate_left
              · simp only [Act.put, List.setIfInBounds_toArray, List.set_cons_zero, List.set_cons_succ, i64_w, i32_w]
                rfl
              refine pure_ (i := 21) (N := some 162) (v := undef) (a' := ?_) #[true,true,true,true,true,true,true,true,true,true,true,true,true,true,true,true,true,true,true,true,true,true,false,false,false,false,false,false,false,false,false] rfl rfl (by kernel_rfl) (fun _ _ _ h => h) (Or.inr ⟨by rfl, rfl⟩) ?_ ?_
              rotate_left
              · simp only [Act.put, List.setIfInBounds_toArray, List.set_cons_zero, List.set_cons_succ, i64_w, i32_w]
                rfl
              refine pure_ (i := 22) (N := some 163) (v := undef) (a' := ?_) #[true,true,true,true,true,true,true,true,true,true,true,true,true,true,true,true,true,true,true,true,true,true,true,false,false,false,false,false,false,false,false] rfl rfl (by kernel_rfl) (fun _ _ _ h => h) (Or.inr ⟨by rfl, rfl⟩) ?_ ?_
              rotate_left
              · simp only [Act.put, List.setIfInBounds_toArray, List.set_cons_zero, List.set_cons_succ, i64_w, i32_w]
                rfl
              refine pure_ (i := 23) (N := some 164) (v := undef) (a' := ?_) #[true,true,true,true,true,true,true,true,true,true,true,true,true,true,true,true,true,true,true,true,true,true,true,true,false,false,false,false,false,false,false] rfl rfl (by kernel_rfl) (fun _ _ _ h => h) (Or.inr ⟨by rfl, rfl⟩) ?_ ?_
              rotate_left
              · simp only [Act.put, List.setIfInBounds_toArray, List.set_cons_zero, List.set_cons_succ, i64_w, i32_w]
                rfl
              refine pure_ (i := 24) (N := some 165) (v := undef) (a' := ?_) #[true,true,true,true,true,true,true,true,true,true,true,true,true,true,true,true,true,true,true,true,true,true,true,true,true,false,false,false,false,false,false] rfl rfl (by kernel_rfl) (fun _ _ _ h => h) (Or.inr ⟨by rfl, rfl⟩) ?_ ?_
              rotate_left
              · simp only [Act.put, List.setIfInBounds_toArray, List.set_cons_zero, List.set_cons_succ, i64_w, i32_w]
                rfl
              refine pure_ (i := 25) (N := some 166) (v := undef) (a' := ?_) #[true,true,true,true,true,true,true,true,true,true,true,true,true,true,true,true,true,true,true,true,true,true,true,true,true,true,false,false,false,false,false] rfl rfl (by kernel_rfl) (fun _ _ _ h => h) (Or.inr ⟨by rfl, rfl⟩) ?_ ?_
              rotate_left
              · simp only [Act.put, List.setIfInBounds_toArray, List.set_cons_zero, List.set_cons_succ, i64_w, i32_w]
                rfl
              refine pure_ (i := 26) (N := some 167) (v := undef) (a' := ?_) #[true,true,true,true,true,true,true,true,true,true,true,true,true,true,true,true,true,true,true,true,true,true,true,true,true,true,true,false,false,false,false] rfl rfl (by kernel_rfl) (fun _ _ _ h => h) (Or.inr ⟨by rfl, rfl⟩) ?_ ?_
              rotate_left
              · simp only [Act.put, List.setIfInBounds_toArray, List.set_cons_zero, List.set_cons_succ, i64_w, i32_w]
                rfl
              refine pure_ (i := 27) (N := some 168) (v := undef) (a' := ?_) #[true,true,true,true,true,true,true,true,true,true,true,true,true,true,true,true,true,true,true,true,true,true,true,true,true,true,true,true,false,false,false] rfl rfl (by kernel_rfl) (fun _ _ _ h => h) (Or.inr ⟨by rfl, rfl⟩) ?_ ?_
              rotate_left
              · simp only [Act.put, List.setIfInBounds_toArray, List.set_cons_zero, List.set_cons_succ, i64_w, i32_w]
                rfl
              refine pure_ (i := 28) (N := some 169) (v := undef) (a' := ?_) #[true,true,true,true,true,true,true,true,true,true,true,true,true,true,true,true,true,true,true,true,true,true,true,true,true,true,true,true,true,false,false] rfl rfl (by kernel_rfl) (fun _ _ _ h => h) (Or.inr ⟨by rfl, rfl⟩) ?_ ?_
              rotate_left
              · simp only [Act.put, List.setIfInBounds_toArray, List.set_cons_zero, List.set_cons_succ, i64_w, i32_w]
                rfl
              refine pure_ (i := 29) (N := some 170) (v := ?_) (a' := ?_) #[true,true,true,true,true,true,true,true,true,true,true,true,true,true,true,true,true,true,true,true,true,true,true,true,true,true,true,true,true,true,false] rfl rfl (by kernel_rfl) (fun _ _ _ h => h) (Or.inl ⟨by rfl, ?_⟩) ?_ ?_
              rotate_left
              · intro w'
                go_simp
                with_reducible rfl
              rotate_left
              · simp only [Act.put, List.setIfInBounds_toArray, List.set_cons_zero, List.set_cons_succ, i64_w, i32_w]
                rfl
              refine pure_ (i := 30) (N := some 171) (v := ?_) (a' := ?_) #[true,true,true,true,true,true,true,true,true,true,true,true,true,true,true,true,true,true,true,true,true,true,true,true,true,true,true,true,true,true,true] rfl rfl (by kernel_rfl) (fun _ _ _ h => h) (Or.inl ⟨by rfl, ?_⟩) ?_ ?_
              rotate_left
              · intro w'
                go_simp
                with_reducible rfl
              rotate_left
              · simp only [Act.put, List.setIfInBounds_toArray, List.set_cons_zero, List.set_cons_succ, i64_w, i32_w]
                rfl
              refine done_ (by kernel_rfl) ?_
              go_wp2
              exact ⟨⟨j + 1, by simp, by omega, Lib.hid (HBX.out.trans (below_weaken_t HBX.out.size (HB1.out.trans (below_weaken_t HB1.out.size HY3.out))))⟩, by simp [intOf]; omega⟩
            iterate 2 (
              · have C2 := Lib.hid c2
                rw [c2] at v1'
                clear c2
                go_wp2
                rw [HW1.out]
                have c2 := C2.out
                rw [c2] at q0
                clear c2
                go_quiet (fail)
                go_wp2
                exact ⟨⟨j + 1, by simp, by omega, Lib.hid (HBX.out.trans (below_weaken_t HBX.out.size (HB1.out.trans (by repeat (first | (with_reducible first | exact Below.refl _ _ | apply below_alloc | apply pw_below_drewN | apply below_drew1) | exact Below.refl _ _)))))⟩, by simp [intOf]; omega⟩)
          · obtain rfl : j = i := by omega
            have hans : rd_T32 L2 (j : Int) = ⟨⟨#[]⟩, false, 0, [], H⟩ := by
              unfold rd_T32
              rw [List.getD_eq_getElem?_getD, Int.toNat_natCast, ← HL2.out, List.getElem?_append_right (by rw [HAL.out, HN.out]; exact Nat.le_refl _), HAL.out, HN.out, Nat.sub_self]; rfl
            obtain ⟨ae, A3, c3, A4, c4, e1, v0, v1, v2, v3, v4, l3, g3, l4, g4⟩ := at_T32 C5.out (j : Int) (by omega) (by omega)
            cases e1
            rw [hans] at v0 v1 v2 v3 v4 l3 g3 l4 g4
            simp only [Int.toNat_natCast] at v0 v1 v2 v3 v4
            have hbx := HBX.out
            replace v4 := (hbx.cell (World.block_lt_of_cell? _ _ v4)).trans v4
            have hbw := HM.out.b.trans (below_weaken_t HM.out.b.size (B5.out.trans (below_weaken_t B5.out.size HBX.out)))
            have hl1 : (j : Int) < (j : Int) + 1 := by omega
            have hq : ¬ (j : Int) < (j : Int) := by omega
            have HS4 := Lib.hid (same_calls wr A4 Ah c4 ch H (by have := HHL.out; omega) (Kd.C_below g4 hbx) l4 (Kd.C_below HCH.out (B5.out.trans (below_weaken_t B5.out.size hbx))) HCH2.out)
            have HBW := Lib.hid hbw
            clear hbx hbw g3 g4 hans v0 v1 v2 v3 l3 l4
            go_wp2_with (go_at_call 14; refine HS4.out.mono ?_; rintro e w' ⟨rfl, ⟨n, rfl⟩⟩)
            go_ret
            exact ⟨rfl, pw_below_drewN HBW.out _⟩
theorem played_all (w : World) (A0 : Option Addr) (c0 : Nat) (xs : List Step) (hr0 : Kd.C k28 w A0 xs.length xs) (hc0 : xs.length ≤ c0) :
    Calls Try.prog 6 #[.slice A0 xs.length c0] w fun e w' => e = .returned (.bool true) ∧ Below w.heap.size w w' := by
  cases hb : fits3 xs with
  | false => exact played_big w A0 c0 xs hr0 hc0 hb
  | true => exact played_walk w A0 c0 xs hr0 hc0 hb
end Go.Proofs.Ytoimkmoalmmooaa.Pure
