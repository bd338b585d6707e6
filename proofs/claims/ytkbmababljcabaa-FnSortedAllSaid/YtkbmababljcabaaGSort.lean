/- ZzSort: accepted types, their qualities as floats, sorted in place, and back. -/
import Derived.Test.YtkbmababljcabaaGSort66
set_option linter.unusedVariables false
set_option linter.unusedSimpArgs false
namespace Go.Proofs.Ytkbmababljcabaa.Given
open Go.RowKit Go.Proofs.YtkbmababljcabaaW.PrintWords Go.Proofs.YtkbmababljcabaaW.PrintLast Go.Proofs.YtkbmababljcabaaW.PrintMore Go.Proofs.Ytkbmababljcabaa.Base Go.Proofs.Ytkbmababljcabaa.Gv Go.Proofs.Ytkbmababljcabaa.QA Go.Proofs.Ytkbmababljcabaa.Srt Go.Proofs.Ytkbmababljcabaa.Fl

def qC (x : S75) : List Value := [.string x.f0, .int .i64 x.f1, .int .i64 x.f2, .int .i64 x.f3, .string x.f4]
def flatQ (l : List S75) : List Value := l.flatMap qC
theorem flatQ_cons (x : S75) (l : List S75) : flatQ (x :: l) = qC x ++ flatQ l := by unfold flatQ; rw [List.flatMap_cons]
theorem flatQ_append (a b : List S75) : flatQ (a ++ b) = flatQ a ++ flatQ b := by unfold flatQ; rw [List.flatMap_append]
theorem flatQ_length (l : List S75) : (flatQ l).length = l.length * 5 := by
  induction l with
  | nil => rfl
  | cons x l ih => rw [flatQ_cons, List.length_append, ih, List.length_cons]; show 5 + _ = _; omega
theorem flatQ_at (l : List S75) : ∀ (i : Nat) (p : S75), l[i]? = some p → ((flatQ l).drop (i * 5)).take 5 = qC p := by
  induction l with
  | nil => intro i p h; simp at h
  | cons x l ih =>
    intro i p h
    rw [flatQ_cons]
    cases i with
    | zero =>
      simp only [List.getElem?_cons_zero, Option.some.injEq] at h
      subst h
      rw [Nat.zero_mul, List.drop_zero, List.take_append_of_le_length (by show 5 ≤ 5; omega)]
      rfl
    | succ i =>
      rw [show (i + 1) * 5 = 5 + i * 5 by omega, ← List.drop_drop, List.drop_append_of_le_length (by show 5 ≤ 5; omega)]
      rw [show (qC x).drop 5 = [] from rfl, List.nil_append]
      exact ih i p (by simpa using h)
theorem R_of_own {w : World} {base n : Nat} {v : Value} {xs : List S75} (h : w.ownsRow base 75 5 v n (flatQ xs)) (hn : n = xs.length) : Kd.R k75 75 w base (fun _ => True) v xs := by
  subst hn
  refine ⟨fun _ _ => trivial, flatQ xs, h, flatQ_length xs, fun j p hj => ?_⟩
  have e := flatQ_at xs j p hj
  show k75.M w base _ p (((flatQ xs).drop (j * 5)).take 5)
  rw [e]
  exact k75_mkM _ _ _ p
theorem take_snoc (l : List S75) (i : Nat) (hi : i < l.length) : l.take (i + 1) = l.take i ++ [l.getD i z75] := by
  rw [List.take_succ_eq_append_getElem hi, List.getD_eq_getElem?_getD, List.getElem?_eq_getElem hi]; rfl
@[local go_sem] theorem store_float {P : Program} (w : World) (a : Addr) (k : FloatKind) (b : Nat) (m : Mode) : (store a (.float k b) m).run P w = stored P w a (.float k b) m := run_store P w a _ m rfl
/-- Fewer than two: nothing is turned. -/
theorem below_weaken_b {B C : Nat} {a b : World} (h : B ≤ C) (k : Below C a b) : Below B a b := ⟨k.os, k.tape, k.output, k.size, fun i hi => k.block i (by omega)⟩
set_option maxRecDepth 100000 in
theorem sort_small (w : World) (p n c : Nat) (A : Option Addr) (hn : n < 2) (hc : w.heap[p]? = some (.cells #[.slice A n c] 92 (0, 0))) :
    Calls Try.prog 66 #[.pointer (some ⟨p, 0, none⟩)] w fun e w' => e = .returned (.tuple #[]) ∧ Below w.heap.size w w' := by
  have c0 : w.cell? ⟨p, 0, none⟩ = some (.slice A n c) := by rw [cell_of_row w p 0 _ _ (0, 0) hc]; rfl
  have hnb : ((n : Int) < 2) = True := eq_true (by omega)
  clear hc
  go_enter Try.func66, Try.ntmps66
  go_wp2
  (try simp only [Exit.inBlock, Exit.then])
  refine bodyPost_ret (results_none rfl _ _ _) rfl ?_
  exact ⟨rfl, Below.refl _ _⟩
theorem inQ.sortA : ∀ (d i : Nat) (l : List S75), inQ l → i + d ≤ l.length → inQ (sortA d i l)
  | 0, _, _, h, _ => h
  | d + 1, i, l, h, hd => by
    have hm : inQ (insA l i) := inQ.move h i _ (by omega)
    have hl := insA_length l i (by omega)
    show inQ (Srt.sortA d (i + 1) (insA l i))
    exact inQ.sortA d (i + 1) _ hm (by omega)
theorem inQ.sortS {l : List S75} (h : inQ l) : inQ (sortS l) := by
  rcases Nat.eq_zero_or_pos l.length with h0 | h0
  · have : Srt.sortS l = l := by unfold Srt.sortS; rw [h0]; rfl
    rw [this]; exact h
  · exact inQ.sortA _ _ _ h (by omega)
theorem sort_any (w : World) (p n : Nat) (v : Value) (l : List S75) (hl : l.length = n) (hn2 : n ≤ 1000000) (hq : inQ l) (hp : p < w.heap.size) (hc : w.heap[p]? = some (.cells #[v] 92 (0, 0))) (hr : w.ownsRow (p + 1) 95 5 v n (flatA l)) :
    Calls Try.prog 66 #[.pointer (some ⟨p, 0, none⟩)] w fun e w' => e = .returned (.tuple #[]) ∧ w'.ownsRow (p + 1) 95 5 v n (flatA (sortS l)) ∧ Below (p + 1) w w' := by
  by_cases h2 : 2 ≤ n
  · rcases hr.2 with ⟨_, h0⟩ | ⟨g, cap, cur, rfl, _⟩
    · omega
    · exact sort_calls w p g n cap l hl h2 hn2 hq hp hc hr
  · obtain ⟨A, c, rfl⟩ := own_slice hr
    refine (sort_small w p n c A (by omega) hc).mono ?_
    rintro e w' ⟨rfl, hb⟩
    have : sortS l = l := by unfold sortS; rw [show l.length - 1 = 0 by omega]; rfl
    rw [this]
    exact ⟨rfl, pw_own_below hr hb, below_weaken_b (by omega) hb⟩
def fiberhelpers_ZzSort.f (l : List S75) : Option (List S75) := if l.length ≤ 1000000 ∧ (l.all fun x => decide (0 ≤ x.f1) && decide (x.f1 ≤ 1000)) = true then some (sortS l) else none
set_option maxHeartbeats 4000000 in
set_option maxRecDepth 100000 in
theorem zzSort_calls (A : Option Addr) (c : Nat) (l : List S75) (w : World) (hr : Kd.C k75 w A l.length l) (hc : l.length ≤ c) (hn2 : l.length ≤ 1000000) (hq : inQ l) :
    Calls Try.prog 44 #[.slice A l.length c] w fun e w' => ∃ v, e = .returned v ∧ Kd.R k75 75 w' w.heap.size (fun _ => True) v (sortS l) ∧ Below w.heap.size w w' := by
  have hinfo : (Try.prog.info? 95).map (fun i => (i.zero, i.size, i.bytes)) = some (some (.agg #[.string ByteArray.empty, .float .f64 0, .int .i64 0, .int .i64 0, .string ByteArray.empty]), 5, 56) := by kernel_rfl
  obtain ⟨i0, hi, hz0, hz1, hz2⟩ := info_parts hinfo
  obtain ⟨S, hS⟩ : ∃ S, sortS l = S := ⟨_, rfl⟩
  rw [hS]
  have HSQ : Hid (inQ S) := Lib.hid (by rw [← hS]; exact hq.sortS)
  have hSl : S.length = l.length := by rw [← hS, sortS_length]
  have HS := Lib.hid hS
  obtain ⟨n, hn⟩ : ∃ n, l.length = n := ⟨_, rfl⟩
  rw [hn] at hSl
  have HSL := Lib.hid hSl
  obtain ⟨p, hp⟩ : ∃ p, w.heap.size = p := ⟨_, rfl⟩
  have HR := Lib.hid hr
  have HQ := Lib.hid hq
  have HN := Lib.hid hn
  have hnn : n ≤ 1000000 := by omega
  rw [hn]
  have hW : Hid ((w.alloc (.cells #[.slice none 0 0] 92)).heap[p]? = some (.cells #[.slice none 0 0] 92 (0, 0))) := Lib.hid (by rw [← hp]; exact heap_alloc_new w _)
  have hB0 : Hid (Below w.heap.size w (w.alloc (.cells #[.slice none 0 0] 92))) := Lib.hid (((Below.refl _ _).alloc (Nat.le_refl _) _))
  have hS0 : Hid ((w.alloc (.cells #[.slice none 0 0] 92)).heap.size = p + 1) := Lib.hid (by simp [hp])
  clear hr hq hn hc hn2 hS hSl
  go_enter Try.func44, Try.ntmps44
  go_wp2
  go_loopw [11] (fun si wr => ∃ (i : Nat) (v : Value), si = .int .i64 i ∧ i ≤ n ∧ Hid (wr.heap[p]? = some (.cells #[v] 92 (0, 0))) ∧ Hid (wr.ownsRow (p + 1) 95 5 v i (flatA (l.take i))) ∧ Hid (Below w.heap.size w wr)) (fun si _ => n - (intOf si).toNat)
  case atStart => exact ⟨0, .slice none 0 0, rfl, by omega, hW, Lib.hid (by rw [List.take_zero]; exact own_nil _ _ _ _), hB0⟩
  case round =>
    obtain ⟨i, v, rfl, hin, HP, HO, HB⟩ := hrel
    by_cases hlt : i < n
    · obtain ⟨x, hx⟩ : ∃ x, l.getD i z75 = x := ⟨_, rfl⟩
      have hat := at_T75 HR.out (i : Int) (by omega) (by rw [HN.out]; omega)
      rw [show rd_T75 l (i : Int) = x from hx, Int.toNat_natCast] at hat
      obtain ⟨ad, rfl, a0, a1, a2, a3, a4⟩ := hat
      replace a0 := (HB.out.cell (World.block_lt_of_cell? w _ a0)).trans a0
      replace a1 := (HB.out.cell (World.block_lt_of_cell? w _ a1)).trans a1
      replace a2 := (HB.out.cell (World.block_lt_of_cell? w _ a2)).trans a2
      replace a3 := (HB.out.cell (World.block_lt_of_cell? w _ a3)).trans a3
      replace a4 := (HB.out.cell (World.block_lt_of_cell? w _ a4)).trans a4
      have hsz : p < wr.heap.size := by
        rcases Nat.lt_or_ge p wr.heap.size with h | h
        · exact h
        · have := HP.out; rw [Array.getElem?_eq_none h] at this; cases this
      have cp : wr.cell? ⟨p, 0, none⟩ = some v := by rw [cell_of_row wr p 0 _ _ (0, 0) HP.out]; rfl
      have HX := Lib.hid hx
      clear hx
      have hg1 : 1 ≤ 1 := Nat.le_refl _
      go_wp2_with (at_builtin; refine wpList_append_own _ rfl _ _ 92 rfl (p + 1) 95 i0 (.agg #[.string ByteArray.empty, .float .f64 0, .int .i64 0, .int .i64 0, .string ByteArray.empty]) 5 56 Try.underlying92 hi hz0 hz1 hz2 rfl (by decide) _ _ _ rfl ((HO.out.alloc _).alloc _) ⟨wr.heap.size + 1, 0, none⟩ 1 1 (accC x) rfl rfl ?c1 ?c2 ?c3 ?c4 ?c5 ?_)
      case c1 =>
        intro j u hj
        match j, hj with
        | 0, hj => simp [accC] at hj; subst hj; simp [Addr.add, fl]
        | 1, hj => simp [accC] at hj; subst hj; simp [Addr.add, fl]
        | 2, hj => simp [accC] at hj; subst hj; simp [Addr.add, fl]
        | 3, hj => simp [accC] at hj; subst hj; simp [Addr.add, fl]
        | 4, hj => simp [accC] at hj; subst hj; simp [Addr.add, fl]
      case c2 =>
        intro u hu
        simp only [accC, List.mem_cons, List.not_mem_nil, or_false] at hu
        rcases hu with rfl | rfl | rfl | rfl | rfl <;> rfl
      case c3 => unfold maxLen; omega
      case c4 => omega
      case c5 => simp; omega
      intro v' w2 hown' hgrow _
      obtain ⟨g, cap, rfl⟩ : ∃ g cap, v' = .slice (some ⟨g, 0, none⟩) (i + 1) cap := by
        rcases hown'.2 with ⟨_, h0⟩ | ⟨g, cap, cur, hv, _⟩
        · omega
        · exact ⟨g, cap, hv⟩
      obtain ⟨v', hv'⟩ : ∃ v', Value.slice (some ⟨g, 0, none⟩) (i + 1) cap = v' := ⟨_, rfl⟩
      have hvb : ∀ k, k ≤ p → some k ≠ v.ownBlock := fun k hk e => by have := own_base HO.out k e.symm; omega
      have hold : ∀ k, k ≤ p → w2.heap[k]? = wr.heap[k]? := fun k hk => by
        rw [hgrow.block k (by simp; omega) (hvb k hk)]
        rw [Below.heap_alloc _ _ _ (by simp; omega)]
        exact Below.heap_alloc _ _ _ (by omega)
      have hb2 : w2.heap[p]? = some (.cells #[v] 92 (0, 0)) := by rw [hold p (Nat.le_refl _)]; exact HP.out
      have d0 : w2.cell? ⟨p, 0, none⟩ = some v := by rw [cell_of_row w2 p 0 _ _ (0, 0) hb2]; rfl
      have f0 : w2.frozen? ⟨p, 0, none⟩ = false := frozen_of_row _ _ 0 _ _ hb2
      have hbw2 : Below p wr w2 := by
        refine ⟨hgrow.os, hgrow.tape, hgrow.output, ?_, fun k hk => hold k (by omega)⟩
        have := hgrow.size
        simp at this
        omega
      rw [hv'] at hown'
      obtain ⟨W3, hW3⟩ : ∃ W, w2.setCell ⟨p, 0, none⟩ v' = W := ⟨_, rfl⟩
      have hP3 : Hid (W3.heap[p]? = some (.cells #[v'] 92 (0, 0))) := Lib.hid (by
        rw [← hW3]
        have := heap_setCell_same w2 p 0 _ 92 v' hb2
        simpa using this)
      have hO3 : Hid (W3.ownsRow (p + 1) 95 5 v' (i + 1) (flatA (l.take (i + 1)))) := Lib.hid (by
        rw [← hW3, take_snoc l i (by rw [HN.out]; exact hlt), flatA_append, HX.out]
        have hm := own_move (w1 := w2.setCell ⟨p, 0, none⟩ v') hown' (fun k hk => Below.heap_setCell _ _ _ _ (by have := own_base hown' k hk; show k ≠ p; omega))
        rw [show flatA [x] = accC x from by simp [flatA]]
        exact hm)
      have hB3 : Hid (Below w.heap.size w W3) := Lib.hid (by
        rw [← hW3, hp]
        have h1 : Below p w wr := by have := HB.out; rwa [hp] at this
        exact (h1.trans hbw2).setCell (p := ⟨p, 0, none⟩) (Nat.le_refl _) _)
      rw [← hv'] at hW3
      clear hv'
      clear hown' hgrow hvb hold hb2 hbw2 a0 a1 a2 a3 a4
      go_wp2_with fail
      try rw [hW3]
      go_roundw
      case rel => exact ⟨i + 1, v', by go_num, by omega, hP3, hO3, hB3⟩
      case measure => simp [intOf]; omega
    · obtain rfl : i = n := by omega
      have hO : wr.ownsRow (p + 1) 95 5 v i (flatA l) := by
        have := HO.out
        rwa [List.take_of_length_le (by rw [HN.out]; exact Nat.le_refl _)] at this
      have hsz : p < wr.heap.size := by
        rcases Nat.lt_or_ge p wr.heap.size with h | h
        · exact h
        · have := HP.out; rw [Array.getElem?_eq_none h] at this; cases this
      obtain ⟨A2, c2, rfl⟩ := own_slice hO
      have HSA := Lib.hid (sort_any wr p i (.slice A2 i c2) l HN.out hnn HQ.out hsz HP.out hO)
      rw [HS.out] at HSA
      have hsz2 := Lib.hid hsz
      clear hO hsz HO
      go_upto_region 9 with (
        go_at_call 66
        refine (HSA.out).mono ?_
        rintro e w3 ⟨rfl, g1, g2⟩
        have hP3 : w3.heap[p]? = some (.cells #[.slice A2 i c2] 92 (0, 0)) := (g2.block p (by omega)).trans HP.out
        have d3 : w3.cell? ⟨p, 0, none⟩ = some (.slice A2 i c2) := by rw [cell_of_row w3 p 0 _ _ (0, 0) hP3]; rfl
        have G1 := Lib.hid g1
        have G2 := Lib.hid (HB.out.trans (below_weaken_b (by omega : w.heap.size ≤ p + 1) g2))
        clear g1 g2 hP3)
      go_wp2
      have hinf2 : (Try.prog.info? 75).map (fun i => (i.zero, i.size, i.bytes)) = some (some (.agg #[.string ByteArray.empty, .int .i64 0, .int .i64 0, .int .i64 0, .string ByteArray.empty]), 5, 56) := by kernel_rfl
      obtain ⟨i1, hj, hy0, hy1, hy2⟩ := info_parts hinf2
      go_loopw [6, 34] (fun s6 sk wr => ∃ (k : Nat), sk = .int .i64 k ∧ k ≤ i ∧ Hid (wr.ownsRow w.heap.size 75 5 s6 k (flatQ (S.take k))) ∧ Hid (wr.ownsRow (p + 1) 95 5 (.slice A2 i c2) i (flatA S)) ∧ Hid (Below w.heap.size w wr)) (fun _ sk _ => i - (intOf sk).toNat)
      case atStart => exact ⟨0, rfl, by omega, Lib.hid (by rw [List.take_zero]; exact own_nil _ _ _ _), G1, G2⟩
      case round =>
        obtain ⟨k, rfl, hki, HO6, HOA, HBk⟩ := hrel
        by_cases hlk : k < i
        · obtain ⟨y, hy⟩ : ∃ y, S.getD k z75 = y := ⟨_, rfl⟩
          obtain ⟨g, hg⟩ : ∃ g, A2 = some ⟨g, 0, none⟩ := by
            rcases HOA.out.2 with ⟨_, h0⟩ | ⟨g, cap, cur, hv, _⟩
            · omega
            · injection hv with h1 h2 h3; exact ⟨g, h1⟩
          subst hg
          have hcy := ARow.cells HOA.out HSL.out k hlk
          rw [hy] at hcy
          obtain ⟨b0, b1, b2, b3, b4⟩ := hcy
          have hyq := HSQ.out.at k (by rw [HSL.out]; exact hlk)
          rw [hy] at hyq
          have hcv := fun (W : World) => run_convert_float_int (P := Try.prog) W 93 3 .f64 .i64 (fl y.f1) y.f1 (by rw [Try.underlying93]; rfl) Try.underlying3 (fl_int _ hyq.1 hyq.2)
          have hki2 : (k : Int) < (i : Int) := by omega
          have HY := Lib.hid hy
          clear hy hyq
          go_wp2_with (at_builtin; refine wpList_append_own _ rfl _ _ 74 rfl w.heap.size 75 i1 (.agg #[.string ByteArray.empty, .int .i64 0, .int .i64 0, .int .i64 0, .string ByteArray.empty]) 5 56 Try.underlying74 hj hy0 hy1 hy2 rfl (by decide) _ _ _ rfl ((HO6.out.alloc _).alloc _) ⟨wr.heap.size + 1, 0, none⟩ 1 1 (qC y) rfl rfl ?c1 ?c2 ?c3 ?c4 ?c5 ?_)
          case c1 =>
            intro j u hju
            match j, hju with
            | 0, hju => simp [qC] at hju; subst hju; simp [Addr.add]
            | 1, hju => simp [qC] at hju; subst hju; simp [Addr.add]
            | 2, hju => simp [qC] at hju; subst hju; simp [Addr.add]
            | 3, hju => simp [qC] at hju; subst hju; simp [Addr.add]
            | 4, hju => simp [qC] at hju; subst hju; simp [Addr.add]
          case c2 =>
            intro u hu
            simp only [qC, List.mem_cons, List.not_mem_nil, or_false] at hu
            rcases hu with rfl | rfl | rfl | rfl | rfl <;> rfl
          case c3 => unfold maxLen; omega
          case c4 => omega
          case c5 => have := HBk.out.size; simp; omega
          intro v' w2 hown' hgrow _
          have hne := own_type_ne HOA.out HO6.out (by decide)
          have hOA2 := Lib.hid (own_other ((HOA.out.alloc _).alloc _) hgrow hne)
          have hO62 : Hid (w2.ownsRow w.heap.size 75 5 v' (k + 1) (flatQ (S.take (k + 1)))) := Lib.hid (by
            rw [take_snoc S k (by rw [HSL.out]; exact hlk), flatQ_append, HY.out]
            rw [show flatQ [y] = qC y from by simp [flatQ]]
            first | exact hown' | (rw [hp]; exact hown'))
          have hB2 : Hid (Below w.heap.size w w2) := Lib.hid (by
            refine HBk.out.trans ⟨hgrow.os, hgrow.tape, hgrow.output, ?_, fun q hq => ?_⟩
            · have := hgrow.size
              simp at this
              omega
            · have hsz := HBk.out.size
              rw [hgrow.block q (by simp; omega) (fun e => by have := own_base HO6.out q e.symm; omega)]
              rw [Below.heap_alloc _ _ _ (by simp; omega)]
              exact Below.heap_alloc _ _ _ (by omega))
          clear hown' hgrow hne b0 b1 b2 b3 b4 hcv
          go_wp2_with fail
          go_roundw
          case rel => exact ⟨k + 1, by go_num, by omega, hO62, hOA2, hB2⟩
          case measure => simp [intOf]; omega
        · obtain rfl : k = i := by omega
          have hfin : Hid (Kd.R k75 75 wr w.heap.size (fun _ => True) u6 S) := Lib.hid (by
            have := HO6.out
            rw [List.take_of_length_le (by rw [HSL.out]; exact Nat.le_refl _)] at this
            exact R_of_own this HSL.out.symm)
          go_wp2
          go_ret
          exact ⟨_, rfl, hfin.out, HBk.out⟩
theorem fiberhelpers_ZzSort.calls (A : Option Addr) (c : Nat) (l : List S75) (r : List S75) (w : World) (hr : Kd.C k75 w A l.length l) (hc : l.length ≤ c) (h : fiberhelpers_ZzSort.f l = some r) :
    Calls Try.prog 44 #[.slice A l.length c] w fun e w' => ∃ v, e = .returned v ∧ Kd.R k75 75 w' w.heap.size (fun _ => True) v r ∧ Below w.heap.size w w' := by
  unfold fiberhelpers_ZzSort.f at h
  by_cases hbd : l.length ≤ 1000000 ∧ (l.all fun x => decide (0 ≤ x.f1) && decide (x.f1 ≤ 1000)) = true
  · rw [if_pos hbd] at h
    obtain rfl := Option.some.inj h
    refine zzSort_calls A c l w hr hc hbd.1 (fun x hx => ?_)
    have := List.all_eq_true.1 hbd.2 x hx
    simp only [Bool.and_eq_true, decide_eq_true_eq] at this
    exact this
  · rw [if_neg hbd] at h
    cases h
end Go.Proofs.Ytkbmababljcabaa.Given
