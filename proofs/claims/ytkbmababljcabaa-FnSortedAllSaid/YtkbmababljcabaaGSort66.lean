/- sortAcceptedTypes: accepted types in a slice behind a pointer are sorted in place. -/
import Derived.Test.YtkbmababljcabaaGSort66c
set_option linter.unusedVariables false
set_option linter.unusedSimpArgs false
namespace Go.Proofs.Ytkbmababljcabaa.Given
open Go.RowKit Go.Proofs.YtkbmababljcabaaW.PrintWords Go.Proofs.YtkbmababljcabaaW.PrintLast Go.Proofs.YtkbmababljcabaaW.PrintMore Go.Proofs.Ytkbmababljcabaa.Base Go.Proofs.Ytkbmababljcabaa.Gv Go.Proofs.Ytkbmababljcabaa.QA Go.Proofs.Ytkbmababljcabaa.Srt Go.Proofs.Ytkbmababljcabaa.Fl

@[local go_sem] theorem store_float66 {P : Program} (w : World) (a : Addr) (k : FloatKind) (b : Nat) (m : Mode) : (store a (.float k b) m).run P w = stored P w a (.float k b) m := run_store P w a _ m rfl
theorem region_ops {P : Program} {id : Nat} {ops ops' : Array Oper} {b : Bool} {Q : Exit → Act → World → Prop} {a : Act} {w : World} (h : ops = ops') (k : (Code.region id ops' b).wp P Q a w) : (Code.region id ops b).wp P Q a w := h ▸ k
theorem swap_world (w : World) (g k : Nat) (x y : S75) : (w.drew.setCells g (k * 5) (accC x)).setCells g (k * 5 + 5) (accC y) = ((((((((((w.setCell ⟨g, k * 5, none⟩ (.string x.f0)).setCell ⟨g, k * 5 + 1, none⟩ (.float .f64 (fl x.f1))).setCell ⟨g, k * 5 + 2, none⟩ (.int .i64 x.f2)).setCell ⟨g, k * 5 + 3, none⟩ (.int .i64 x.f3)).setCell ⟨g, k * 5 + 4, none⟩ (.string x.f4)).setCell ⟨g, k * 5 + 5, none⟩ (.string y.f0)).setCell ⟨g, k * 5 + 5 + 1, none⟩ (.float .f64 (fl y.f1))).setCell ⟨g, k * 5 + 5 + 2, none⟩ (.int .i64 y.f2)).setCell ⟨g, k * 5 + 5 + 3, none⟩ (.int .i64 y.f3)).setCell ⟨g, k * 5 + 5 + 4, none⟩ (.string y.f4)).drew := by
  simp only [World.setCells, accC, World.setCell_drew, Nat.add_assoc, Nat.reduceAdd]
set_option maxHeartbeats 4000000 in
set_option maxRecDepth 100000 in
theorem sort_calls (w : World) (p g n cap : Nat) (l : List S75) (hl : l.length = n) (hn : 2 ≤ n) (hn2 : n ≤ 1000000) (hq : inQ l) (hp : p < w.heap.size) (hc : w.heap[p]? = some (.cells #[.slice (some ⟨g, 0, none⟩) n cap] 92 (0, 0))) (hr : ARow w (p + 1) g n cap l) :
    Calls Try.prog 66 #[.pointer (some ⟨p, 0, none⟩)] w fun e w' => e = .returned (.tuple #[]) ∧ ARow w' (p + 1) g n cap (sortS l) ∧ Below (p + 1) w w' := by
  have c0 : w.cell? ⟨p, 0, none⟩ = some (.slice (some ⟨g, 0, none⟩) n cap) := by rw [cell_of_row w p 0 _ _ (0, 0) hc]; rfl
  have hnb : ((n : Int) < 2) = False := eq_false (by omega)
  obtain ⟨RES, hRES⟩ : ∃ r, sortS l = r := ⟨_, rfl⟩
  rw [hRES]
  have hs : sortA (n - 1) 1 l = RES := by rw [← hRES]; unfold sortS; rw [hl]
  have HS := Lib.hid hs
  have HR := Lib.hid hr
  have HQ := Lib.hid hq
  have HG := Lib.hid (own_base hr g rfl)
  clear hs hr hq hRES hc
  go_enter Try.func66, Try.ntmps66
  go_wp2
  go_loopw [3] (fun si wr => ∃ (i : Nat) (l' : List S75), si = .int .i64 i ∧ 1 ≤ i ∧ i ≤ n ∧ l'.length = n ∧ Hid (sortA (n - i) i l' = RES) ∧ Hid (inQ l') ∧ Hid (ARow wr (p + 1) g n cap l') ∧ Hid (Below (p + 1) w wr)) (fun si _ => n - (intOf si).toNat)
  case atStart => exact ⟨1, l, rfl, by omega, by omega, hl, HS, HQ, HR, Lib.hid (Below.refl _ _)⟩
  case round =>
    obtain ⟨i, l', rfl, hi1, hin, hl', HS', HQ', HR', HB'⟩ := hrel
    obtain ⟨wo, hwo⟩ : ∃ wo : World, wo = wr := ⟨_, rfl⟩
    subst hwo
    by_cases hlt : i < n
    · obtain ⟨x, hx⟩ : ∃ x, l'.getD i z75 = x := ⟨_, rfl⟩
      obtain ⟨R, hRR⟩ : ∃ R, bsA l' x (i + 1) 0 ((i : Int) - 1) = R := ⟨_, rfl⟩
      have hrng := bsA_range l' x (i + 1) 0 ((i : Int) - 1) (by omega) (by omega) (by omega)
      rw [hRR] at hrng
      have HX := Lib.hid hx
      have HRR := Lib.hid hRR
      have hxq := HQ'.out.at i (by omega)
      rw [hx] at hxq
      clear hx hRR
      go_upto_region 6 with fail
      go_loopw [4, 5] (fun sl sh wi => ∃ (a b : Int) (f : Nat), sl = .int .i64 a ∧ sh = .int .i64 b ∧ 0 ≤ a ∧ b < i ∧ a ≤ b + 1 ∧ b - a < f ∧ Hid (bsA l' x f a b = R) ∧ Hid (ARow wi (p + 1) g n cap l') ∧ Hid (Below (p + 1) w wi)) (fun sl sh _ => (intOf sh - intOf sl + 1).toNat)
      case atStart => exact ⟨0, (i : Int) - 1, i + 1, rfl, by go_num, by omega, by omega, by omega, by omega, HRR, HR', HB'⟩
      case round =>
        obtain ⟨a, b, f, rfl, rfl, ha, hb, hab, hf, HBS, HRi, HBi⟩ := hrel
        by_cases hle : a ≤ b
        · obtain ⟨f, rfl⟩ : ∃ g, f = g + 1 := ⟨f - 1, by omega⟩
          obtain ⟨m, hm⟩ : ∃ m : Nat, (a + b) / 2 = (m : Int) := ⟨((a + b) / 2).toNat, by omega⟩
          have hmt : (a + b).tdiv 2 = (m : Int) := by rw [Int.tdiv_eq_ediv_of_nonneg (by omega)]; exact hm
          have hmi : m < i := by omega
          have hml : a ≤ m := by omega
          have hmh : (m : Int) ≤ b := by omega
          obtain ⟨y, hy⟩ : ∃ y, l'.getD m z75 = y := ⟨_, rfl⟩
          have hyq := HQ'.out.at m (by omega)
          rw [hy] at hyq
          have hstep : Hid ((if lessA x y = true then bsA l' x f (m + 1) b else bsA l' x f a (m - 1)) = R) := Lib.hid (by
            have h1 := HBS.out
            unfold bsA at h1
            rw [if_pos hle, hm, Int.toNat_natCast, hy] at h1
            exact h1)
          have HY := Lib.hid hy
          obtain ⟨T, hT⟩ : ∃ T, lessA x y = T := ⟨_, rfl⟩
          rw [hT] at hstep
          have HT := Lib.hid hT
          have hxq2 := Lib.hid hxq
          have hyq2 := Lib.hid hyq
          clear hy HBS hm hT hyq
          go_wp2_with fail
          refine region_ops (ops' := opsOf Try.f66 8) (by kernel_rfl) ?_
          apply cmp_all wr (p + 1) g n cap i m l' x y hl' hlt (by omega) hn2 HRi.out HX.out HY.out hxq2.out hyq2.out
          intro nq
          intros
          rw [HT.out]
          cases T with
          | true =>
            go_wp2
            go_roundw
            case rel => exact ⟨(m : Int) + 1, b, f, by go_num, rfl, by omega, hb, by omega, by omega, hstep, HRi, Lib.hid (pw_below_drewN HBi.out _)⟩
            case measure => simp [intOf]; omega
          | false =>
            go_wp2
            go_roundw
            case rel => exact ⟨a, (m : Int) - 1, f, rfl, by go_num, by omega, by omega, by omega, by omega, hstep, HRi, Lib.hid (pw_below_drewN HBi.out _)⟩
            case measure => simp [intOf]; omega
        · have haR : R = a := by have := HBS.out; rw [bsA_done _ _ _ _ _ hle] at this; exact this.symm
          subst haR
          obtain ⟨r, rfl⟩ : ∃ r : Nat, R = r := ⟨R.toNat, by omega⟩
          have hri : r ≤ i := by omega
          clear HBS hab hf ha hb hrng hxq
          go_wp2
          go_loopw [7] (fun sj wj => ∃ j : Nat, sj = .int .i64 j ∧ r ≤ j ∧ j ≤ i ∧ Hid (ARow wj (p + 1) g n cap (moveA l' i j)) ∧ Hid (Below (p + 1) w wj)) (fun sj _ => (intOf sj).toNat)
          case atStart => exact ⟨i, rfl, by omega, by omega, Lib.hid (by rw [moveA_self _ _ (by omega)]; exact HRi.out), HBi⟩
          case round =>
            obtain ⟨j, rfl, hrj, hji, HRj, HBj⟩ := hrel
            have hml : (moveA l' i j).length = n := by rw [moveA_length _ _ _ (by omega) hji]; exact hl'
            by_cases hlt2 : r < j
            · obtain ⟨k, hk⟩ : ∃ k, j = k + 1 := ⟨j - 1, by omega⟩
              have q1 : (moveA l' i j).getD j z75 = x := by rw [moveA_at _ _ _ (by omega) hji]; exact HX.out
              have q2 : (moveA l' i j).getD k z75 = l'.getD k z75 := moveA_ahead _ _ _ (by omega) hji k (by omega)
              obtain ⟨y, hy⟩ : ∃ y, l'.getD k z75 = y := ⟨_, rfl⟩
              rw [hy] at q2
              have hrow : ARow wr.drew (p + 1) g n cap (moveA l' i j) := HRj.out
              have cj := ARow.cells HRj.out hml j (by omega)
              have ck := ARow.cells HRj.out hml k (by omega)
              rw [q1] at cj
              rw [q2] at ck
              have hj5 : j * 5 = k * 5 + 5 := by omega
              rw [hj5] at cj
              obtain ⟨a0, a1, a2, a3, a4⟩ := cj
              obtain ⟨b0, b1, b2, b3, b4⟩ := ck
              have hf : ∀ o, wr.frozen? ⟨g, o, none⟩ = false := fun o => World.ownsRow.frozenAt (w := wr) HRj.out o
              have hrow1 := hrow.put hml k (by omega) x
              have hrow2 := hrow1.put (by rw [List.length_set]; exact hml) j (by omega) y
              have hfin : ((moveA l' i j).set k x).set j y = moveA l' i k := by
                have := moveA_swap l' i k (by omega) (by omega)
                rw [HX.out, hy, ← hk] at this
                exact this
              rw [hfin] at hrow2
              have hb2 : Below (p + 1) w ((wr.drew.setCells g (k * 5) (accC x)).setCells g (j * 5) (accC y)) := below_setCells HG.out _ _ _ (below_setCells HG.out _ _ _ (pw_below_drewN HBj.out 1))
              rw [hj5, swap_world] at hrow2 hb2
              have HR2 := Lib.hid hrow2
              have HB2 := Lib.hid hb2
              have e1 : IntKind.i64.wrap ((j : Int) - 1) = (k : Int) := by rw [IntWalk.i64_in _ (by omega)]; omega
              have e2 : (k : Int) < (n : Int) := by omega
              have e3 : (j : Int) < (n : Int) := by omega
              have hkr : r ≤ k := by omega
              have hki : k ≤ i := by omega
              have hkj : k < j := by omega
              clear hk q1 q2 hy hrow hrow1 hfin hrow2 hb2 hml
              go_wp2_with fail
              go_region
              go_wp2
              go_roundw
              case rel => exact ⟨k, by go_num, hkr, hki, HR2, HB2⟩
              case measure => simp [intOf]; omega
            · have : j = r := by omega
              subst this
              have hnext : Hid (sortA (n - (i + 1)) (i + 1) (moveA l' i j) = RES) := Lib.hid (by
                have h1 := HS'.out
                rw [show n - i = (n - (i + 1)) + 1 by omega] at h1
                unfold sortA insA at h1
                rw [HX.out, HRR.out, Int.toNat_natCast] at h1
                exact h1)
              have hq2 := HQ'.out.move i j (by omega)
              have HQ2 := Lib.hid hq2
              clear hq2
              go_wp2
              go_roundw
              case rel => exact ⟨i + 1, moveA l' i j, by go_num, by omega, by omega, hml, hnext, HQ2, HRj, HBj⟩
              case measure => simp [intOf]; omega
    · have : i = n := by omega
      subst this
      have hfin : Hid (l' = RES) := Lib.hid (by have := HS'.out; rw [Nat.sub_self] at this; exact this)
      go_wp2
      go_end0
      exact ⟨rfl, by rw [← hfin.out]; exact HR'.out, HB'.out⟩
end Go.Proofs.Ytkbmababljcabaa.Given
