/- Texts of this claim, one behind the other (merged by wip/prune.py of this repo, without what the proof does not use): GSpecMatch, GSpecMatchF, LSpecSays. -/
import Derived.Test.YtgmjaggkiifdjaaZN5
import Derived.Test.YtgmjaggkiifdjaaZN7
import Derived.Test.YtgmjaggkiifdjaaZN8
set_option linter.unusedVariables false
set_option linter.unusedSimpArgs false
namespace Go.Proofs.Ytgmjaggkiifdjaa.Given
open Go.RowKit Go.Proofs.YtgmjaggkiifdjaaW.PrintWords Go.Proofs.YtgmjaggkiifdjaaW.PrintLast Go.Proofs.YtgmjaggkiifdjaaW.PrintMore Go.Proofs.Ytgmjaggkiifdjaa.Base Go.Proofs.Ytgmjaggkiifdjaa.Gv Go.Proofs.Ytgmjaggkiifdjaa.QA
abbrev qS : ByteArray := ⟨#[113]⟩
def findS (l : List Sp) (name : ByteArray) : Option Sp := l.find? fun q => eqFold q.f0 name
def wantS (l : List Sp) : List Sp := l.takeWhile fun p => !eqFold p.f0 qS
def dupS (l : List Sp) : Bool := (List.range l.length).any fun i => (findS (l.take i) ((l.getD i z38).f0)).isSome
def hitS (lb : List Sp) (p : Sp) : Bool := match findS lb p.f0 with
  | some q => eqFold q.f1 p.f1
  | none => false
def pmS (la lb : List Sp) : Int := if dupS (wantS la) = true ∨ dupS lb = true then 2 else if (wantS la).all (hitS lb) = true then 1 else 0
def valR (l : List Sp) (name : ByteArray) : ByteArray := match findS l name with
  | some q => q.f1
  | none => ⟨#[]⟩
def Small (l : List Sp) : Prop := l.length ≤ 1099511627776 ∧ ∀ p ∈ l, p.f0.size ≤ 1099511627776 ∧ p.f1.size ≤ 1099511627776
theorem Small.take {l : List Sp} (h : Small l) (i : Nat) : Small (l.take i) := ⟨by rw [List.length_take]; have := h.1; omega, fun p hp => h.2 p (List.mem_of_mem_take hp)⟩
theorem rdSp_nat (l : List Sp) (i : Nat) (h : i < l.length) : rd_T38 l (i : Int) = l[i] := by
  show l.getD i z38 = l[i]
  rw [List.getD_eq_getElem?_getD, List.getElem?_eq_getElem h]; rfl
theorem valueOf_from (l : List Sp) (name : ByteArray) (hl : Small l) (d : Nat) : ∀ i : Nat, i + d = l.length → Ev (fun k => spec_valueOf.l0 k name l (l.length : Int) (i : Int)) (valR (l.drop i) name, (findS (l.drop i) name).isSome) := by
  induction d with
  | zero =>
    intro i hi
    have z1 : ¬ (i : Int) < (l.length : Int) := by omega
    rw [List.drop_eq_nil_of_le (by omega)]
    exact Ev.step (f := fun _ => some _) (fun k => by rw [spec_valueOf.l0, if_neg z1]; rfl) (Ev.now _)
  | succ d ih =>
    intro i hi
    have h0 := hl.1
    have hlt : i < l.length := by omega
    have z1 : (i : Int) < (l.length : Int) := by omega
    have z2 : (0 : Int) ≤ (i : Int) := by omega
    have hw := Lib.hid (show wrap64 ((i : Int) + 1) = ((i + 1 : Nat) : Int) by rw [wrap_add (by omega) (by omega)]; rfl)
    have hsz := (hl.2 _ (List.getElem_mem hlt)).1
    refine Ev.step (f := fun k => (spec_same.f k (l[i]).f0 name).bind fun t => if t = true then (some ((l[i]).f1, true)) else spec_valueOf.l0 k name l (l.length : Int) ((i + 1 : Nat) : Int)) (fun k => by rw [spec_valueOf.l0, if_pos z1, if_pos z2, if_pos z1, rdSp_nat l i hlt, hw.out]) (Ev.bind (same_ends (l[i]).f0 name (by omega)) ?_)
    rw [List.drop_eq_getElem_cons hlt]
    unfold valR findS
    refine Ev.ite (fun h => Ev.val ?_) (fun h => ?_)
    · rw [List.find?_cons_of_pos (p := fun q : Sp => eqFold q.f0 name) h]; rfl
    · rw [List.find?_cons_of_neg (p := fun q : Sp => eqFold q.f0 name) h]
      exact ih (i + 1) (by omega)
theorem valueOf_calls (A : Option Addr) (c : Nat) (l : List Sp) (name : ByteArray) (w : World) (hr : Kd.C k38 w A l.length l) (hc : l.length ≤ c) (hl : Small l) :
    Calls Try.prog 32 #[.slice A l.length c, .string name] w fun e w' => e = .returned (.tuple #[.string (valR l name), .bool (findS l name).isSome]) ∧ Below w.heap.size w w' := by
  obtain ⟨k, hk⟩ := Ev.rounds (valueOf_from l name hl l.length 0 (by omega))
  rw [List.drop_zero] at hk
  exact spec_valueOf.calls k A c l name _ _ w hr hc hk
theorem same_calls (a b : ByteArray) (w : World) (hs : a.size ≤ 1099511627776) : Calls Try.prog 31 #[.string a, .string b] w fun e w' => e = .returned (.bool (eqFold a b)) ∧ Drawn0 w w' := by
  obtain ⟨k, hk⟩ := Ev.rounds (same_ends a b (by omega))
  exact spec_same.calls k a b _ w hk
theorem dupS_true {l : List Sp} {j : Nat} (hj : j < l.length) (h : (findS (l.take j) ((l.getD j z38).f0)).isSome = true) : dupS l = true := List.any_eq_true.2 ⟨j, List.mem_range.2 hj, h⟩
theorem dupS_false {l : List Sp} (h : ∀ m : Nat, m < l.length → (findS (l.take m) ((l.getD m z38).f0)).isSome = false) : dupS l = false := List.any_eq_false.2 (fun m hm => by rw [h m (List.mem_range.1 hm)]; simp)
theorem want_stop (la : List Sp) (i : Nat) (hi : i < la.length) (h : ∀ q ∈ la.take i, ¬ eqFold q.f0 qS = true) (hq : eqFold (la[i]).f0 qS = true) : wantS la = la.take i := by
  induction la generalizing i with
  | nil => simp at hi
  | cons p t ih =>
    cases i with
    | zero =>
      unfold wantS
      rw [List.takeWhile_cons_of_neg (by simpa using hq)]; rfl
    | succ i =>
      rw [List.take_succ_cons] at h
      have h0 := h p (List.mem_cons_self ..)
      have ih := ih i (by simpa using hi) (fun q hq2 => h q (List.mem_cons_of_mem _ hq2)) (by simpa using hq)
      unfold wantS at ih ⊢
      rw [List.takeWhile_cons_of_pos (by simpa using h0), ih, List.take_succ_cons]
theorem want_all (la : List Sp) (h : ∀ q ∈ la, ¬ eqFold q.f0 qS = true) : wantS la = la.take la.length := by
  rw [List.take_length]
  unfold wantS
  induction la with
  | nil => rfl
  | cons p t ih =>
    have h0 := h p (List.mem_cons_self ..)
    rw [List.takeWhile_cons_of_pos (by simpa using h0), ih (fun q hq2 => h q (List.mem_cons_of_mem _ hq2))]
set_option maxHeartbeats 8000000 in
set_option maxRecDepth 100000 in
theorem specPM_two (a0 a1 : ByteArray) (ka kb : Nat) (la lb : List Sp) (sa sb : Int) (ha : spec_Params.f ka a0 (-1) = some (la, sa)) (hb : spec_Params.f kb a1 (-1) = some (lb, sb)) (hs : sa ≠ 1 ∨ sb ≠ 1) (w : World) :
    Calls Try.prog 15 #[.string a0, .string a1] w fun e w' => e = .returned (.int .i64 2) ∧ Below w.heap.size w w' := by
  have HPA := Lib.hid ha
  have HPB := Lib.hid hb
  clear ha hb
  go_enter Try.func15, Try.ntmps15
  by_cases hsa : sa = 1
  · subst hsa
    have hsb : (sb != 1) = true := bne_iff_ne.2 (hs.resolve_left (by simp))
    clear hs
    go_wp2_with (first
      | (go_at_call 11; with_reducible show Calls Try.prog 11 #[.string a0, _] _ _; refine (spec_Params.calls ka a0 (-1) la 1 _ HPA.out).mono ?_; rintro e w1 ⟨va, rfl, hra, hba⟩; obtain ⟨Aa, ca, rfl, hca, hCa⟩ := Kd.R_reads hra; have HCA := Lib.hid hCa; have HLA := Lib.hid hca; have HBA := Lib.hid hba; clear hra hba hca hCa)
      | (go_at_call 11; with_reducible show Calls Try.prog 11 #[.string a1, _] _ _; refine (spec_Params.calls kb a1 (-1) lb sb _ HPB.out).mono ?_; rintro e w2 ⟨vb, rfl, hrb, hbb⟩; obtain ⟨Ab, cb, rfl, hcb, hCb⟩ := Kd.R_reads hrb; have HCB := Lib.hid hCb; have HLB := Lib.hid hcb; have HBB := Lib.hid hbb; clear hrb hbb hcb hCb))
    go_ret
    exact ⟨rfl, below_step HBA.out HBB.out⟩
  · have hsa : (sa != 1) = true := bne_iff_ne.2 hsa
    clear hs
    go_wp2_with (first
      | (go_at_call 11; with_reducible show Calls Try.prog 11 #[.string a0, _] _ _; refine (spec_Params.calls ka a0 (-1) la sa _ HPA.out).mono ?_; rintro e w1 ⟨va, rfl, hra, hba⟩; obtain ⟨Aa, ca, rfl, hca, hCa⟩ := Kd.R_reads hra; have HCA := Lib.hid hCa; have HLA := Lib.hid hca; have HBA := Lib.hid hba; clear hra hba hca hCa)
      | (go_at_call 11; with_reducible show Calls Try.prog 11 #[.string a1, _] _ _; refine (spec_Params.calls kb a1 (-1) lb sb _ HPB.out).mono ?_; rintro e w2 ⟨vb, rfl, hrb, hbb⟩; obtain ⟨Ab, cb, rfl, hcb, hCb⟩ := Kd.R_reads hrb; have HCB := Lib.hid hCb; have HLB := Lib.hid hcb; have HBB := Lib.hid hbb; clear hrb hbb hcb hCb))
    go_ret
    exact ⟨rfl, below_step HBA.out HBB.out⟩
set_option maxHeartbeats 8000000 in
set_option maxRecDepth 100000 in
theorem specPM_one (a0 a1 : ByteArray) (ka kb : Nat) (la lb : List Sp) (ha : spec_Params.f ka a0 (-1) = some (la, 1)) (hb : spec_Params.f kb a1 (-1) = some (lb, 1)) (hla : Small la) (hlb : Small lb) (w : World) :
    Calls Try.prog 15 #[.string a0, .string a1] w fun e w' => e = .returned (.int .i64 (pmS la lb)) ∧ Below w.heap.size w w' := by
  have HPA := Lib.hid ha
  have HPB := Lib.hid hb
  clear ha hb
  go_enter Try.func15, Try.ntmps15
  · skip
    go_wp2_with (first
      | (go_at_call 11; with_reducible show Calls Try.prog 11 #[.string a0, _] _ _; refine (spec_Params.calls ka a0 (-1) la 1 _ HPA.out).mono ?_; rintro e w1 ⟨va, rfl, hra, hba⟩; obtain ⟨Aa, ca, rfl, hca, hCa⟩ := Kd.R_reads hra; have HCA := Lib.hid hCa; have HLA := Lib.hid hca; have HBA := Lib.hid hba; clear hra hba hca hCa)
      | (go_at_call 11; with_reducible show Calls Try.prog 11 #[.string a1, _] _ _; refine (spec_Params.calls kb a1 (-1) lb 1 _ HPB.out).mono ?_; rintro e w2 ⟨vb, rfl, hrb, hbb⟩; obtain ⟨Ab, cb, rfl, hcb, hCb⟩ := Kd.R_reads hrb; have HCB := Lib.hid hCb; have HLB := Lib.hid hcb; have HBB := Lib.hid hbb; clear hrb hbb hcb hCb))
    have HCA2 := Lib.hid (Kd.C_below HCA.out HBB.out)
    have HB2 := Lib.hid (below_step HBA.out HBB.out)
    have hl0 := hla.1
    have hl1 := hlb.1
    clear HCA HBA HBB
    go_loopw [40, 9] (fun iv v9 wr => ∃ (i : Nat), iv = .int .i64 i ∧ i ≤ la.length ∧ Hid (Kd.R k38 38 wr w2.heap.size (fun _ => True) v9 (la.take i)) ∧ Hid (∀ p ∈ la.take i, ¬ eqFold p.f0 qS = true) ∧ Hid (Below w2.heap.size w2 wr)) (fun iv _ _ => la.length - (intOf iv).toNat)
    case atStart => exact ⟨0, rfl, by omega, Lib.hid (Kd.R_nil _ _ _ _ _), Lib.hid (by simp), Lib.hid (Below.refl _ _)⟩
    case round =>
      obtain ⟨i, rfl, hi, HR, HNO, HX⟩ := hrel
      obtain ⟨Ax, cx, rfl, hcx, hCx⟩ := Kd.R_reads HR.out
      have hli : (la.take i).length = i := by rw [List.length_take]; omega
      rw [hli] at HR hcx hCx
      clear hli
      have HCX := Lib.hid hCx
      have HLX := Lib.hid hcx
      clear hcx hCx
      by_cases hlt : i < la.length
      · obtain ⟨p, hp⟩ : ∃ p, la[i] = p := ⟨_, rfl⟩
        have hlt' : decide ((i : Int) < (la.length : Int)) = true := decide_eq_true (by omega)
        obtain ⟨ad, e0, y0, y1⟩ := at_T38 (Kd.C_below HCA2.out HX.out) (i : Int) (by omega) (by omega)
        cases e0
        rw [rdSp_nat la _ hlt, hp] at y0 y1
        simp only [Int.toNat_natCast] at y0 y1
        have hpz : p.f0.size ≤ 1099511627776 := (hla.2 p (by rw [← hp]; exact List.getElem_mem hlt)).1
        have ht : la.take (i + 1) = la.take i ++ [p] := by rw [List.take_succ_eq_append_getElem hlt, hp]
        by_cases hq : eqFold p.f0 qS = true
        · go_upto_region 12 with (first
            | ((with_reducible refine gate_dst (N := 11) rfl ?_); refine box_event ?hg (N := 11) ?hd (cs := #[.string (⟨#[]⟩ : ByteArray), .string (⟨#[]⟩ : ByteArray)]) (t := 38) ?hr ?_; (case hd => rfl); (case hg => rfl); (case hr => first | (go_simp; done) | (go_simp; rfl)); intro gb hg wb hbox hb; have HN := Lib.hid (show Below wr.heap.size wr wb from hb); have GE := Lib.hid (show wr.heap.size ≤ gb by rw [hg]; exact Nat.le_refl _); have BK := Lib.hid hbox; clear hb hbox hg; have b0 : wb.cell? ⟨gb, 0, none⟩ = some (.string (⟨#[]⟩ : ByteArray)) := (blk_cell BK.out 0).trans rfl; have b1 : wb.cell? ⟨gb, 1, none⟩ = some (.string (⟨#[]⟩ : ByteArray)) := (blk_cell BK.out 1).trans rfl; have f0 := blk_frozen BK.out 0; have f1 := blk_frozen BK.out 1)
            | (go_at_call 31; (with_reducible refine (same_calls p.f0 qS _ hpz).mono ?_); rintro e w4 ⟨rfl, ⟨nd, rfl⟩⟩; rw [hq]))
          have hX : wantS la = la.take i := want_stop la i hlt (fun q hq2 => HNO.out q hq2) (by rw [hp]; exact hq)
          obtain ⟨W3, hW3⟩ : ∃ W, W = ((wb.setCell ⟨gb, 0, none⟩ (.string p.f0)).setCell ⟨gb, 1, none⟩ (.string p.f1)).drewN nd := ⟨_, rfl⟩
          rw [← hW3]
          have HN3 := Lib.hid (show Below wr.heap.size wr W3 by rw [hW3]; exact (by with_reducible repeat (first | exact HN.out | apply below_alloc | apply pw_below_drewN | apply below_drew1 | refine below_set ?_ GE.out)))
          clear hW3 HN GE BK b0 b1 f0 f1 y0 y1

          have hXl : (la.take i).length = i := by rw [List.length_take]; omega
          obtain ⟨X, hXd⟩ : ∃ X, la.take i = X := ⟨_, rfl⟩
          have sX := hla.take i
          rw [hXd] at hX HCX hXl sX
          have hX := Lib.hid hX
          have HC1 := Lib.hid (Kd.C_below HCX.out HN3.out)
          have HC2 := Lib.hid (Kd.C_below HCB.out (below_step HX.out HN3.out))
          have HBW := Lib.hid (below_step HB2.out (below_step HX.out HN3.out))
          have HL_0 := HLX
          have HL_1 := HLB
          clear hXd HN3 HCX HCB HX HR HNO HCA2 HB2 hXl
          go_wp2
          obtain ⟨W4, hW4⟩ : ∃ W, W = W3.alloc (.cells #[.slice Ax i cx, .slice Ab lb.length cb] 30) := ⟨_, rfl⟩
          rw [← hW4]
          have HN4 := Lib.hid (show Below W3.heap.size W3 W4 by rw [hW4]; exact below_alloc (Below.refl _ _) _)
          have k0 : W4.cell? ⟨W3.heap.size, 0, none⟩ = some (.slice Ax i cx) := by rw [hW4]; first | (go_simp; done) | (simp; done)
          have k1 : W4.cell? ⟨W3.heap.size, 1, none⟩ = some (.slice Ab lb.length cb) := by rw [hW4]; first | (go_simp; done) | (simp; done)
          have K0 := Lib.hid k0
          have K1 := Lib.hid k1
          clear hW4 k0 k1
          go_loopw [56] (fun kv wk => (kv = .int .i64 0 ∨ (kv = .int .i64 1 ∧ Hid (dupS X = false)) ∨ (kv = .int .i64 2 ∧ Hid (dupS X = false) ∧ Hid (dupS lb = false))) ∧ Hid (Below W4.heap.size W4 wk)) (fun kv _ => 2 - (intOf kv).toNat)
          case atStart => exact ⟨.inl rfl, Lib.hid (Below.refl _ _)⟩
          case round =>
            obtain ⟨hcase, HY⟩ := hrel
            obtain ⟨Wa, rfl⟩ : ∃ W, W = wr := ⟨_, rfl⟩
            have q0 : Wa.cell? ⟨W3.heap.size, 0, none⟩ = some (.slice Ax i cx) := (HY.out.cell (World.block_lt_of_cell? _ _ K0.out)).trans K0.out
            have q1 : Wa.cell? ⟨W3.heap.size, 1, none⟩ = some (.slice Ab lb.length cb) := (HY.out.cell (World.block_lt_of_cell? _ _ K1.out)).trans K1.out
            have HC3 := Lib.hid (Kd.C_below (Kd.C_below HC1.out HN4.out) HY.out)
            have HC4 := Lib.hid (Kd.C_below (Kd.C_below HC2.out HN4.out) HY.out)
            obtain rfl | ⟨rfl, D0⟩ | ⟨rfl, D0, D1⟩ := hcase
            · go_wp2
              go_loopw [62] (fun jv wi => ∃ j : Nat, jv = .int .i64 j ∧ j ≤ i ∧ Hid (∀ m : Nat, m < j → (findS (X.take m) ((X.getD m z38).f0)).isSome = false) ∧ Hid (Below Wa.heap.size Wa wi)) (fun jv _ => i - (intOf jv).toNat)
              case atStart => exact ⟨0, rfl, by omega, Lib.hid (by intro m hm; omega), Lib.hid (Below.refl _ _)⟩
              case round =>
                obtain ⟨j, rfl, hj, HF, HZ⟩ := hrel
                by_cases hlt : j < i
                · have hlt2 : j < X.length := by have := HC3.out.1; omega
                  obtain ⟨p, hp⟩ : ∃ p, X[j]'hlt2 = p := ⟨_, rfl⟩
                  have hlt' : decide ((j : Int) < (i : Int)) = true := decide_eq_true (by omega)
                  obtain ⟨ad, e0, y0, y1⟩ := at_T38 (Kd.C_below HC3.out HZ.out) (j : Int) (by omega) (by omega)
                  cases e0
                  rw [rdSp_nat X _ hlt2, hp] at y0 y1
                  simp only [Int.toNat_natCast] at y0 y1
                  have hgd : X.getD j z38 = p := by rw [List.getD_eq_getElem?_getD, List.getElem?_eq_getElem hlt2, hp]; rfl
                  have z0 : (0 : Int) ≤ (j : Int) := by omega
                  have zN : j ≤ i := by omega
                  have hjc : j ≤ cx := by have := HL_0.out; omega
                  go_upto_region 18 with (first
                    | ((with_reducible refine gate_dst (N := 15) rfl ?_); refine box_event ?hg (N := 15) ?hd (cs := #[.string (⟨#[]⟩ : ByteArray), .string (⟨#[]⟩ : ByteArray)]) (t := 38) ?hr ?_; (case hd => rfl); (case hg => rfl); (case hr => first | (go_simp; done) | (go_simp; rfl)); intro gb hg wb hbox hb; have HN := Lib.hid (show Below wr.heap.size wr wb from hb); have GE := Lib.hid (show wr.heap.size ≤ gb by rw [hg]; exact Nat.le_refl _); have BK := Lib.hid hbox; clear hb hbox hg; have b0 : wb.cell? ⟨gb, 0, none⟩ = some (.string (⟨#[]⟩ : ByteArray)) := (blk_cell BK.out 0).trans rfl; have b1 : wb.cell? ⟨gb, 1, none⟩ = some (.string (⟨#[]⟩ : ByteArray)) := (blk_cell BK.out 1).trans rfl; have f0 := blk_frozen BK.out 0; have f1 := blk_frozen BK.out 1))
                  obtain ⟨W5, hW5⟩ : ∃ W, W = (wb.setCell ⟨gb, 0, none⟩ (.string p.f0)).setCell ⟨gb, 1, none⟩ (.string p.f1) := ⟨_, rfl⟩
                  rw [← hW5]
                  have HN5 := Lib.hid (show Below wr.heap.size wr W5 by rw [hW5]; exact (by with_reducible repeat (first | exact HN.out | apply below_alloc | apply pw_below_drewN | apply below_drew1 | refine below_set ?_ GE.out)))
                  have c0_ : W5.drew.cell? ⟨gb, 0, none⟩ = some (.string p.f0) := by rw [hW5]; first | (go_simp; done) | (simp; done)
                  have c1_ : W5.cell? ⟨gb, 1, none⟩ = some (.string p.f1) := by rw [hW5]; first | (go_simp; done) | (simp; done)
                  clear hW5 HN BK b0 b1 f0 f1 y0 y1
                  obtain ⟨fv, hfv⟩ : ∃ b, (findS (X.take j) p.f0).isSome = b := ⟨_, rfl⟩
                  have HV := Lib.hid (show ∀ W, Below W5.heap.size W5 W → Calls Try.prog 32 #[.slice (some ad) j cx, .string p.f0] W fun e w' => e = .returned (.tuple #[.string (valR (X.take j) p.f0), .bool fv]) ∧ Below W.heap.size W w' from by
                    intro W hW
                    have hC := HC3.out
                    have hlN : X.length = i := hC.1
                    rw [← hlN] at hC
                    have h1 := Kd.C_take (Kd.C_below (Kd.C_below (Kd.C_below hC HZ.out) HN5.out) hW) (show j ≤ X.length by omega)
                    have h2 := valueOf_calls (some ad) cx (X.take j) p.f0 W h1 (by rw [List.length_take]; have := HL_0.out; omega) (sX.take j)
                    rw [List.length_take, Nat.min_eq_left (by omega), hfv] at h2
                    exact h2)
                  refine start_ (n := 11) (S := fun w' => w'.cell? ⟨gb, 0, none⟩ = some (.string p.f0)) (ds := []) #[false,false,false,false,false,false,false,false,false,false,false] (by kernel_rfl) rfl rfl c0_ (fun hHeld => ?_)
                  generalize hWd : World.drew W5 = W2_ at hHeld ⊢
                  refine pure_ (i := 0) (N := some 68) (v := ?_) (a' := ?_) #[true,false,false,false,false,false,false,false,false,false,false] rfl rfl (by kernel_rfl) (fun _ _ _ h => h) (Or.inl ⟨by rfl, ?_⟩) ?_ ?_
                  rotate_left
                  · intro w'
                    go_simp
                    with_reducible rfl
                  rotate_left
                  · simp only [Act.put, List.setIfInBounds_toArray, List.set_cons_zero, List.set_cons_succ, i64_w, i32_w]
                    rfl
                  refine pure_ (i := 1) (N := some 69) (v := ?_) (a' := ?_) #[true,true,false,false,false,false,false,false,false,false,false] rfl rfl (by kernel_rfl) (fun _ _ _ h => h) (Or.inl ⟨by rfl, ?_⟩) ?_ ?_
                  rotate_left
                  · intro w'
                    go_simp
                    with_reducible rfl
                  rotate_left
                  · simp only [Act.put, List.setIfInBounds_toArray, List.set_cons_zero, List.set_cons_succ, i64_w, i32_w]
                    rfl
                  refine pure_ (i := 2) (N := some 70) (v := ?_) (a' := ?_) #[true,true,true,false,false,false,false,false,false,false,false] rfl rfl (by kernel_rfl) (fun _ _ _ h => h) (Or.inl ⟨by rfl, ?_⟩) ?_ ?_
                  rotate_left
                  · intro w'
                    go_simp
                    with_reducible rfl
                  rotate_left
                  · simp only [Act.put, List.setIfInBounds_toArray, List.set_cons_zero, List.set_cons_succ, i64_w, i32_w]
                    rfl
                  refine pure_ (i := 3) (N := some 71) (v := ?_) (a' := ?_) #[true,true,true,true,false,false,false,false,false,false,false] rfl rfl (by kernel_rfl) (fun _ _ _ h => h) (Or.inl ⟨by rfl, ?_⟩) ?_ ?_
                  rotate_left
                  · intro w'
                    go_simp
                    with_reducible rfl
                  rotate_left
                  · simp only [Act.put, List.setIfInBounds_toArray, List.set_cons_zero, List.set_cons_succ, i64_w, i32_w]
                    rfl
                  refine take_ (i := 4) (N := some 72) (v := ?_) (a' := ?_) #[true,true,true,true,true,false,false,false,false,false,false] rfl rfl (by kernel_rfl) (fun _ _ _ h => h) (Or.inl ⟨by rfl, ?_⟩) hHeld ?_ ?_
                  rotate_left
                  · rintro w' s0
                    go_simp
                    with_reducible rfl
                  rotate_left
                  · simp only [Act.put, List.setIfInBounds_toArray, List.set_cons_zero, List.set_cons_succ, i64_w, i32_w]
                    rfl
                  refine one_ (i := 5) (N := some 73) #[true,true,true,true,true,true,false,false,false,false,false] rfl rfl (by kernel_rfl) (by decide) (fun K hK => ?_)
                  refine goes_ Try.func32 (by kernel_rfl) rfl #[.slice (some ad) j cx, .string p.f0] (by rfl) rfl rfl (by (try simp only [List.map_toArray, List.map_cons, List.map_nil]); first | done | rfl) ?_
                  with_reducible refine (HV.out _ (by rw [← hWd]; exact below_drew1 (Below.refl _ _))).mono ?_
                  rintro e w6 ⟨rfl, hb6⟩
                  have HY6 := Lib.hid (show Below W5.heap.size W5 w6 from by rw [← hWd] at hb6; exact (below_drew1 (Below.refl _ _)).trans hb6)
                  refine ⟨_, rfl, ?_⟩
                  refine hK.out _ _ ((hb6.cell (World.block_lt_of_cell? _ _ hHeld)).trans hHeld) (fun hHeld => ?_)
                  clear hK K
                  refine norm_ (a' := ?_) ?_ ?_
                  rotate_left
                  · show Act.put _ (some 73) _ = _
                    simp only [Act.put, List.setIfInBounds_toArray, List.set_cons_zero, List.set_cons_succ, i64_w, i32_w]
                    rfl
                  refine pure_ (i := 6) (N := some 67) (v := ?_) (a' := ?_) #[true,true,true,true,true,true,true,false,false,false,false] rfl rfl (by kernel_rfl) (fun _ _ _ h => h) (Or.inl ⟨by rfl, ?_⟩) ?_ ?_
                  rotate_left
                  · intro w'
                    go_simp
                    with_reducible rfl
                  rotate_left
                  · simp only [Act.put, List.setIfInBounds_toArray, List.set_cons_zero, List.set_cons_succ, i64_w, i32_w]
                    rfl
                  refine pure_ (i := 7) (N := some 74) (v := ?_) (a' := ?_) #[true,true,true,true,true,true,true,true,false,false,false] rfl rfl (by kernel_rfl) (fun _ _ _ h => h) (Or.inl ⟨by rfl, ?_⟩) ?_ ?_
                  rotate_left
                  · intro w'
                    go_simp
                    with_reducible rfl
                  rotate_left
                  · simp only [Act.put, List.setIfInBounds_toArray, List.set_cons_zero, List.set_cons_succ, i64_w, i32_w]
                    rfl
                  refine pure_ (i := 8) (N := some 75) (v := ?_) (a' := ?_) #[true,true,true,true,true,true,true,true,true,false,false] rfl rfl (by kernel_rfl) (fun _ _ _ h => h) (Or.inl ⟨by rfl, ?_⟩) ?_ ?_
                  rotate_left
                  · intro w'
                    go_simp
                    with_reducible rfl
                  rotate_left
                  · simp only [Act.put, List.setIfInBounds_toArray, List.set_cons_zero, List.set_cons_succ, i64_w, i32_w]
                    rfl
                  refine pure_ (i := 9) (N := some 16) (v := ?_) (a' := ?_) #[true,true,true,true,true,true,true,true,true,true,false] rfl rfl (by kernel_rfl) (fun _ _ _ h => h) (Or.inl ⟨by rfl, ?_⟩) ?_ ?_
                  rotate_left
                  · intro w'
                    go_simp
                    with_reducible rfl
                  rotate_left
                  · simp only [Act.put, List.setIfInBounds_toArray, List.set_cons_zero, List.set_cons_succ, i64_w, i32_w]
                    rfl
                  refine pure_ (i := 10) (N := some 17) (v := ?_) (a' := ?_) #[true,true,true,true,true,true,true,true,true,true,true] rfl rfl (by kernel_rfl) (fun _ _ _ h => h) (Or.inl ⟨by rfl, ?_⟩) ?_ ?_
                  rotate_left
                  · intro w'
                    go_simp
                    with_reducible rfl
                  rotate_left
                  · simp only [Act.put, List.setIfInBounds_toArray, List.set_cons_zero, List.set_cons_succ, i64_w, i32_w]
                    rfl
                  refine done_ (by kernel_rfl) ?_
                  cases fv with
                  | true =>
                    go_wp2
                    go_ret
                    refine ⟨?_, below_step HBW.out (below_step HN4.out (below_step HY.out (below_step HZ.out (below_step HN5.out HY6.out))))⟩
                    rw [pmS, if_pos (.inl (by rw [hX.out]; exact dupS_true hlt2 (by rw [hgd]; exact hfv)))]
                    rfl
                  | false =>
                    go_wp2
                    exact ⟨⟨j + 1, by simp, by omega, Lib.hid (by
                      intro m hm
                      rcases Nat.lt_or_ge m j with h | h
                      · exact HF.out m h
                      · obtain rfl : m = j := by omega
                        rw [hgd]; exact hfv), Lib.hid (below_step HZ.out (below_step HN5.out HY6.out))⟩, by simp [intOf]; omega⟩
                · obtain rfl : i = j := by omega
                  have hq_ : ¬ (i : Int) < (i : Int) := by omega
                  have hD : dupS X = false := dupS_false (by have := HC3.out.1; rw [this]; exact HF.out)
                  go_wp2
                  exact ⟨⟨.inr (.inl ⟨rfl, Lib.hid hD⟩), Lib.hid (below_step HY.out HZ.out)⟩, by simp [intOf]⟩
            · go_wp2
              go_loopw [62] (fun jv wi => ∃ j : Nat, jv = .int .i64 j ∧ j ≤ lb.length ∧ Hid (∀ m : Nat, m < j → (findS (lb.take m) ((lb.getD m z38).f0)).isSome = false) ∧ Hid (Below Wa.heap.size Wa wi)) (fun jv _ => lb.length - (intOf jv).toNat)
              case atStart => exact ⟨0, rfl, by omega, Lib.hid (by intro m hm; omega), Lib.hid (Below.refl _ _)⟩
              case round =>
                obtain ⟨j, rfl, hj, HF, HZ⟩ := hrel
                by_cases hlt : j < lb.length
                · have hlt2 : j < lb.length := by have := HC4.out.1; omega
                  obtain ⟨p, hp⟩ : ∃ p, lb[j]'hlt2 = p := ⟨_, rfl⟩
                  have hlt' : decide ((j : Int) < (lb.length : Int)) = true := decide_eq_true (by omega)
                  obtain ⟨ad, e0, y0, y1⟩ := at_T38 (Kd.C_below HC4.out HZ.out) (j : Int) (by omega) (by omega)
                  cases e0
                  rw [rdSp_nat lb _ hlt2, hp] at y0 y1
                  simp only [Int.toNat_natCast] at y0 y1
                  have hgd : lb.getD j z38 = p := by rw [List.getD_eq_getElem?_getD, List.getElem?_eq_getElem hlt2, hp]; rfl
                  have z0 : (0 : Int) ≤ (j : Int) := by omega
                  have zN : j ≤ lb.length := by omega
                  have hjc : j ≤ cb := by have := HL_1.out; omega
                  go_upto_region 18 with (first
                    | ((with_reducible refine gate_dst (N := 15) rfl ?_); refine box_event ?hg (N := 15) ?hd (cs := #[.string (⟨#[]⟩ : ByteArray), .string (⟨#[]⟩ : ByteArray)]) (t := 38) ?hr ?_; (case hd => rfl); (case hg => rfl); (case hr => first | (go_simp; done) | (go_simp; rfl)); intro gb hg wb hbox hb; have HN := Lib.hid (show Below wr.heap.size wr wb from hb); have GE := Lib.hid (show wr.heap.size ≤ gb by rw [hg]; exact Nat.le_refl _); have BK := Lib.hid hbox; clear hb hbox hg; have b0 : wb.cell? ⟨gb, 0, none⟩ = some (.string (⟨#[]⟩ : ByteArray)) := (blk_cell BK.out 0).trans rfl; have b1 : wb.cell? ⟨gb, 1, none⟩ = some (.string (⟨#[]⟩ : ByteArray)) := (blk_cell BK.out 1).trans rfl; have f0 := blk_frozen BK.out 0; have f1 := blk_frozen BK.out 1))
                  obtain ⟨W5, hW5⟩ : ∃ W, W = (wb.setCell ⟨gb, 0, none⟩ (.string p.f0)).setCell ⟨gb, 1, none⟩ (.string p.f1) := ⟨_, rfl⟩
                  rw [← hW5]
                  have HN5 := Lib.hid (show Below wr.heap.size wr W5 by rw [hW5]; exact (by with_reducible repeat (first | exact HN.out | apply below_alloc | apply pw_below_drewN | apply below_drew1 | refine below_set ?_ GE.out)))
                  have c0_ : W5.drew.cell? ⟨gb, 0, none⟩ = some (.string p.f0) := by rw [hW5]; first | (go_simp; done) | (simp; done)
                  have c1_ : W5.cell? ⟨gb, 1, none⟩ = some (.string p.f1) := by rw [hW5]; first | (go_simp; done) | (simp; done)
                  clear hW5 HN BK b0 b1 f0 f1 y0 y1
                  obtain ⟨fv, hfv⟩ : ∃ b, (findS (lb.take j) p.f0).isSome = b := ⟨_, rfl⟩
                  have HV := Lib.hid (show ∀ W, Below W5.heap.size W5 W → Calls Try.prog 32 #[.slice (some ad) j cb, .string p.f0] W fun e w' => e = .returned (.tuple #[.string (valR (lb.take j) p.f0), .bool fv]) ∧ Below W.heap.size W w' from by
                    intro W hW
                    have hC := HC4.out
                    have hlN : lb.length = lb.length := hC.1
                    rw [← hlN] at hC
                    have h1 := Kd.C_take (Kd.C_below (Kd.C_below (Kd.C_below hC HZ.out) HN5.out) hW) (show j ≤ lb.length by omega)
                    have h2 := valueOf_calls (some ad) cb (lb.take j) p.f0 W h1 (by rw [List.length_take]; have := HL_1.out; omega) (hlb.take j)
                    rw [List.length_take, Nat.min_eq_left (by omega), hfv] at h2
                    exact h2)
                  refine start_ (n := 11) (S := fun w' => w'.cell? ⟨gb, 0, none⟩ = some (.string p.f0)) (ds := []) #[false,false,false,false,false,false,false,false,false,false,false] (by kernel_rfl) rfl rfl c0_ (fun hHeld => ?_)
                  generalize hWd : World.drew W5 = W2_ at hHeld ⊢
                  refine pure_ (i := 0) (N := some 68) (v := ?_) (a' := ?_) #[true,false,false,false,false,false,false,false,false,false,false] rfl rfl (by kernel_rfl) (fun _ _ _ h => h) (Or.inl ⟨by rfl, ?_⟩) ?_ ?_
                  rotate_left
                  · intro w'
                    go_simp
                    with_reducible rfl
                  rotate_left
                  · simp only [Act.put, List.setIfInBounds_toArray, List.set_cons_zero, List.set_cons_succ, i64_w, i32_w]
                    rfl
                  refine pure_ (i := 1) (N := some 69) (v := ?_) (a' := ?_) #[true,true,false,false,false,false,false,false,false,false,false] rfl rfl (by kernel_rfl) (fun _ _ _ h => h) (Or.inl ⟨by rfl, ?_⟩) ?_ ?_
                  rotate_left
                  · intro w'
                    go_simp
                    with_reducible rfl
                  rotate_left
                  · simp only [Act.put, List.setIfInBounds_toArray, List.set_cons_zero, List.set_cons_succ, i64_w, i32_w]
                    rfl
                  refine pure_ (i := 2) (N := some 70) (v := ?_) (a' := ?_) #[true,true,true,false,false,false,false,false,false,false,false] rfl rfl (by kernel_rfl) (fun _ _ _ h => h) (Or.inl ⟨by rfl, ?_⟩) ?_ ?_
                  rotate_left
                  · intro w'
                    go_simp
                    with_reducible rfl
                  rotate_left
                  · simp only [Act.put, List.setIfInBounds_toArray, List.set_cons_zero, List.set_cons_succ, i64_w, i32_w]
                    rfl
                  refine pure_ (i := 3) (N := some 71) (v := ?_) (a' := ?_) #[true,true,true,true,false,false,false,false,false,false,false] rfl rfl (by kernel_rfl) (fun _ _ _ h => h) (Or.inl ⟨by rfl, ?_⟩) ?_ ?_
                  rotate_left
                  · intro w'
                    go_simp
                    with_reducible rfl
                  rotate_left
                  · simp only [Act.put, List.setIfInBounds_toArray, List.set_cons_zero, List.set_cons_succ, i64_w, i32_w]
                    rfl
                  refine take_ (i := 4) (N := some 72) (v := ?_) (a' := ?_) #[true,true,true,true,true,false,false,false,false,false,false] rfl rfl (by kernel_rfl) (fun _ _ _ h => h) (Or.inl ⟨by rfl, ?_⟩) hHeld ?_ ?_
                  rotate_left
                  · rintro w' s0
                    go_simp
                    with_reducible rfl
                  rotate_left
                  · simp only [Act.put, List.setIfInBounds_toArray, List.set_cons_zero, List.set_cons_succ, i64_w, i32_w]
                    rfl
                  refine one_ (i := 5) (N := some 73) #[true,true,true,true,true,true,false,false,false,false,false] rfl rfl (by kernel_rfl) (by decide) (fun K hK => ?_)
                  refine goes_ Try.func32 (by kernel_rfl) rfl #[.slice (some ad) j cb, .string p.f0] (by rfl) rfl rfl (by (try simp only [List.map_toArray, List.map_cons, List.map_nil]); first | done | rfl) ?_
                  with_reducible refine (HV.out _ (by rw [← hWd]; exact below_drew1 (Below.refl _ _))).mono ?_
                  rintro e w6 ⟨rfl, hb6⟩
                  have HY6 := Lib.hid (show Below W5.heap.size W5 w6 from by rw [← hWd] at hb6; exact (below_drew1 (Below.refl _ _)).trans hb6)
                  refine ⟨_, rfl, ?_⟩
                  refine hK.out _ _ ((hb6.cell (World.block_lt_of_cell? _ _ hHeld)).trans hHeld) (fun hHeld => ?_)
                  clear hK K
                  refine norm_ (a' := ?_) ?_ ?_
                  rotate_left
                  · show Act.put _ (some 73) _ = _
                    simp only [Act.put, List.setIfInBounds_toArray, List.set_cons_zero, List.set_cons_succ, i64_w, i32_w]
                    rfl
                  refine pure_ (i := 6) (N := some 67) (v := ?_) (a' := ?_) #[true,true,true,true,true,true,true,false,false,false,false] rfl rfl (by kernel_rfl) (fun _ _ _ h => h) (Or.inl ⟨by rfl, ?_⟩) ?_ ?_
                  rotate_left
                  · intro w'
                    go_simp
                    with_reducible rfl
                  rotate_left
                  · simp only [Act.put, List.setIfInBounds_toArray, List.set_cons_zero, List.set_cons_succ, i64_w, i32_w]
                    rfl
                  refine pure_ (i := 7) (N := some 74) (v := ?_) (a' := ?_) #[true,true,true,true,true,true,true,true,false,false,false] rfl rfl (by kernel_rfl) (fun _ _ _ h => h) (Or.inl ⟨by rfl, ?_⟩) ?_ ?_
                  rotate_left
                  · intro w'
                    go_simp
                    with_reducible rfl
                  rotate_left
                  · simp only [Act.put, List.setIfInBounds_toArray, List.set_cons_zero, List.set_cons_succ, i64_w, i32_w]
                    rfl
                  refine pure_ (i := 8) (N := some 75) (v := ?_) (a' := ?_) #[true,true,true,true,true,true,true,true,true,false,false] rfl rfl (by kernel_rfl) (fun _ _ _ h => h) (Or.inl ⟨by rfl, ?_⟩) ?_ ?_
                  rotate_left
                  · intro w'
                    go_simp
                    with_reducible rfl
                  rotate_left
                  · simp only [Act.put, List.setIfInBounds_toArray, List.set_cons_zero, List.set_cons_succ, i64_w, i32_w]
                    rfl
                  refine pure_ (i := 9) (N := some 16) (v := ?_) (a' := ?_) #[true,true,true,true,true,true,true,true,true,true,false] rfl rfl (by kernel_rfl) (fun _ _ _ h => h) (Or.inl ⟨by rfl, ?_⟩) ?_ ?_
                  rotate_left
                  · intro w'
                    go_simp
                    with_reducible rfl
                  rotate_left
                  · simp only [Act.put, List.setIfInBounds_toArray, List.set_cons_zero, List.set_cons_succ, i64_w, i32_w]
                    rfl
                  refine pure_ (i := 10) (N := some 17) (v := ?_) (a' := ?_) #[true,true,true,true,true,true,true,true,true,true,true] rfl rfl (by kernel_rfl) (fun _ _ _ h => h) (Or.inl ⟨by rfl, ?_⟩) ?_ ?_
                  rotate_left
                  · intro w'
                    go_simp
                    with_reducible rfl
                  rotate_left
                  · simp only [Act.put, List.setIfInBounds_toArray, List.set_cons_zero, List.set_cons_succ, i64_w, i32_w]
                    rfl
                  refine done_ (by kernel_rfl) ?_
                  cases fv with
                  | true =>
                    go_wp2
                    go_ret
                    refine ⟨?_, below_step HBW.out (below_step HN4.out (below_step HY.out (below_step HZ.out (below_step HN5.out HY6.out))))⟩
                    rw [pmS, if_pos (.inr (dupS_true hlt2 (by rw [hgd]; exact hfv)))]
                    rfl
                  | false =>
                    go_wp2
                    exact ⟨⟨j + 1, by simp, by omega, Lib.hid (by
                      intro m hm
                      rcases Nat.lt_or_ge m j with h | h
                      · exact HF.out m h
                      · obtain rfl : m = j := by omega
                        rw [hgd]; exact hfv), Lib.hid (below_step HZ.out (below_step HN5.out HY6.out))⟩, by simp [intOf]; omega⟩
                · obtain rfl : lb.length = j := by omega
                  have hq_ : ¬ (lb.length : Int) < (lb.length : Int) := by omega
                  have hD : dupS lb = false := dupS_false (by have := HC4.out.1; rw [this]; exact HF.out)
                  go_wp2
                  exact ⟨⟨.inr (.inr ⟨rfl, D0, Lib.hid hD⟩), Lib.hid (below_step HY.out HZ.out)⟩, by simp [intOf]⟩
            · go_wp2
              have hpm := Lib.hid <| show pmS la lb = if X.all (hitS lb) = true then 1 else 0 by
                rw [pmS, hX.out, if_neg (fun h => h.elim (by rw [D0.out]; simp) (by rw [D1.out]; simp))]
              go_loopw [81] (fun iv wi => ∃ m : Nat, iv = .int .i64 m ∧ m ≤ i ∧ Hid (∀ q ∈ X.take m, hitS lb q = true) ∧ Hid (Below Wa.heap.size Wa wi)) (fun iv _ => i - (intOf iv).toNat)
              case atStart => exact ⟨0, rfl, by omega, Lib.hid (by simp), Lib.hid (Below.refl _ _)⟩
              case round =>
                obtain ⟨m, rfl, hm, HF, HZ⟩ := hrel
                by_cases hlt : m < i
                · have hlt2 : m < X.length := by have := HC3.out.1; omega
                  obtain ⟨p, hp⟩ : ∃ p, X[m]'hlt2 = p := ⟨_, rfl⟩
                  have hlt' : decide ((m : Int) < (i : Int)) = true := decide_eq_true (by omega)
                  obtain ⟨ad, e0, y0, y1⟩ := at_T38 (Kd.C_below HC3.out HZ.out) (m : Int) (by omega) (by omega)
                  cases e0
                  rw [rdSp_nat X _ hlt2, hp] at y0 y1
                  simp only [Int.toNat_natCast] at y0 y1
                  have hmem : p ∈ X := by rw [← hp]; exact List.getElem_mem hlt2
                  have ht : X.take (m + 1) = X.take m ++ [p] := by rw [List.take_succ_eq_append_getElem hlt2, hp]
                  cases hf : findS lb p.f0 with
                  | none =>
                    have hval : valR lb p.f0 = ⟨#[]⟩ := by rw [valR, hf]
                    have his : (findS lb p.f0).isSome = false := by rw [hf]; rfl
                    have hno : hitS lb p = false := by rw [hitS, hf]
                    have HNO := Lib.hid hno
                    clear hf hno
                    go_wp2_with (first
                      | ((with_reducible refine gate_dst (N := 19) rfl ?_); refine box_event ?hg (N := 19) ?hd (cs := #[.string (⟨#[]⟩ : ByteArray), .string (⟨#[]⟩ : ByteArray)]) (t := 38) ?hr ?_; (case hd => rfl); (case hg => rfl); (case hr => first | (go_simp; done) | (go_simp; rfl)); intro gb hg wb hbox hb; have HN := Lib.hid (show Below wr.heap.size wr wb from hb); have GE := Lib.hid (show wr.heap.size ≤ gb by rw [hg]; exact Nat.le_refl _); have BK := Lib.hid hbox; clear hb hbox hg; have b0 : wb.cell? ⟨gb, 0, none⟩ = some (.string (⟨#[]⟩ : ByteArray)) := (blk_cell BK.out 0).trans rfl; have b1 : wb.cell? ⟨gb, 1, none⟩ = some (.string (⟨#[]⟩ : ByteArray)) := (blk_cell BK.out 1).trans rfl; have f0 := blk_frozen BK.out 0; have f1 := blk_frozen BK.out 1)
                      | (go_at_call 32; have d0 : ((wb.setCell ⟨gb, 0, none⟩ (.string p.f0)).setCell ⟨gb, 1, none⟩ (.string p.f1)).cell? ⟨gb, 1, none⟩ = some (.string p.f1) := (by first | (go_simp; done) | (simp; done)); (with_reducible refine (valueOf_calls Ab cb lb p.f0 _ (Kd.C_below (Kd.C_below HC4.out HZ.out) (by with_reducible repeat (first | exact HN.out | apply below_alloc | apply pw_below_drewN | apply below_drew1 | refine below_set ?_ GE.out))) HL_1.out hlb).mono ?_); rintro e w6 ⟨rfl, hb6⟩; have HY6 := Lib.hid (below_step (by with_reducible repeat (first | exact HN.out | apply below_alloc | apply pw_below_drewN | apply below_drew1 | refine below_set ?_ GE.out)) hb6); have d1 : w6.cell? ⟨gb, 1, none⟩ = some (.string p.f1) := (hb6.cell (World.block_lt_of_cell? _ _ d0)).trans d0; clear hb6; rw [hval, his]))
                    go_ret
                    refine ⟨?_, below_step HBW.out (below_step HN4.out (below_step HY.out (below_step HZ.out HY6.out)))⟩
                    rw [hpm.out, if_neg (fun h => by have := List.all_eq_true.1 h p hmem; rw [HNO.out] at this; cases this)]
                    rfl
                  | some q =>
                    have hval : valR lb p.f0 = q.f1 := by rw [valR, hf]
                    have his : (findS lb p.f0).isSome = true := by rw [hf]; rfl
                    have hqz : q.f1.size ≤ 1099511627776 := (hlb.2 q (List.mem_of_find?_eq_some hf)).2
                    have hhit : hitS lb p = eqFold q.f1 p.f1 := by rw [hitS, hf]
                    have HHIT := Lib.hid hhit
                    clear hf hhit
                    cases hb : eqFold q.f1 p.f1 with
                    | false =>
                      go_wp2_with (first
                        | ((with_reducible refine gate_dst (N := 19) rfl ?_); refine box_event ?hg (N := 19) ?hd (cs := #[.string (⟨#[]⟩ : ByteArray), .string (⟨#[]⟩ : ByteArray)]) (t := 38) ?hr ?_; (case hd => rfl); (case hg => rfl); (case hr => first | (go_simp; done) | (go_simp; rfl)); intro gb hg wb hbox hb; have HN := Lib.hid (show Below wr.heap.size wr wb from hb); have GE := Lib.hid (show wr.heap.size ≤ gb by rw [hg]; exact Nat.le_refl _); have BK := Lib.hid hbox; clear hb hbox hg; have b0 : wb.cell? ⟨gb, 0, none⟩ = some (.string (⟨#[]⟩ : ByteArray)) := (blk_cell BK.out 0).trans rfl; have b1 : wb.cell? ⟨gb, 1, none⟩ = some (.string (⟨#[]⟩ : ByteArray)) := (blk_cell BK.out 1).trans rfl; have f0 := blk_frozen BK.out 0; have f1 := blk_frozen BK.out 1)
                        | (go_at_call 32; have d0 : ((wb.setCell ⟨gb, 0, none⟩ (.string p.f0)).setCell ⟨gb, 1, none⟩ (.string p.f1)).cell? ⟨gb, 1, none⟩ = some (.string p.f1) := (by first | (go_simp; done) | (simp; done)); (with_reducible refine (valueOf_calls Ab cb lb p.f0 _ (Kd.C_below (Kd.C_below HC4.out HZ.out) (by with_reducible repeat (first | exact HN.out | apply below_alloc | apply pw_below_drewN | apply below_drew1 | refine below_set ?_ GE.out))) HL_1.out hlb).mono ?_); rintro e w6 ⟨rfl, hb6⟩; have HY6 := Lib.hid (below_step (by with_reducible repeat (first | exact HN.out | apply below_alloc | apply pw_below_drewN | apply below_drew1 | refine below_set ?_ GE.out)) hb6); have d1 : w6.cell? ⟨gb, 1, none⟩ = some (.string p.f1) := (hb6.cell (World.block_lt_of_cell? _ _ d0)).trans d0; clear hb6; rw [hval, his])
                        | (go_at_call 31; (with_reducible refine (same_calls q.f1 p.f1 _ hqz).mono ?_); rintro e w7 ⟨rfl, ⟨nd, rfl⟩⟩; rw [hb]))
                      go_ret
                      refine ⟨?_, below_step HBW.out (below_step HN4.out (below_step HY.out (below_step HZ.out (pw_below_drewN HY6.out _))))⟩
                      rw [hpm.out, if_neg (fun h => by have := List.all_eq_true.1 h p hmem; rw [HHIT.out, hb] at this; cases this)]
                      rfl
                    | true =>
                      go_wp2_with (first
                        | ((with_reducible refine gate_dst (N := 19) rfl ?_); refine box_event ?hg (N := 19) ?hd (cs := #[.string (⟨#[]⟩ : ByteArray), .string (⟨#[]⟩ : ByteArray)]) (t := 38) ?hr ?_; (case hd => rfl); (case hg => rfl); (case hr => first | (go_simp; done) | (go_simp; rfl)); intro gb hg wb hbox hb; have HN := Lib.hid (show Below wr.heap.size wr wb from hb); have GE := Lib.hid (show wr.heap.size ≤ gb by rw [hg]; exact Nat.le_refl _); have BK := Lib.hid hbox; clear hb hbox hg; have b0 : wb.cell? ⟨gb, 0, none⟩ = some (.string (⟨#[]⟩ : ByteArray)) := (blk_cell BK.out 0).trans rfl; have b1 : wb.cell? ⟨gb, 1, none⟩ = some (.string (⟨#[]⟩ : ByteArray)) := (blk_cell BK.out 1).trans rfl; have f0 := blk_frozen BK.out 0; have f1 := blk_frozen BK.out 1)
                        | (go_at_call 32; have d0 : ((wb.setCell ⟨gb, 0, none⟩ (.string p.f0)).setCell ⟨gb, 1, none⟩ (.string p.f1)).cell? ⟨gb, 1, none⟩ = some (.string p.f1) := (by first | (go_simp; done) | (simp; done)); (with_reducible refine (valueOf_calls Ab cb lb p.f0 _ (Kd.C_below (Kd.C_below HC4.out HZ.out) (by with_reducible repeat (first | exact HN.out | apply below_alloc | apply pw_below_drewN | apply below_drew1 | refine below_set ?_ GE.out))) HL_1.out hlb).mono ?_); rintro e w6 ⟨rfl, hb6⟩; have HY6 := Lib.hid (below_step (by with_reducible repeat (first | exact HN.out | apply below_alloc | apply pw_below_drewN | apply below_drew1 | refine below_set ?_ GE.out)) hb6); have d1 : w6.cell? ⟨gb, 1, none⟩ = some (.string p.f1) := (hb6.cell (World.block_lt_of_cell? _ _ d0)).trans d0; clear hb6; rw [hval, his])
                        | (go_at_call 31; (with_reducible refine (same_calls q.f1 p.f1 _ hqz).mono ?_); rintro e w7 ⟨rfl, ⟨nd, rfl⟩⟩; rw [hb]))
                      exact ⟨⟨m + 1, by simp, by omega, Lib.hid (by
                        rw [ht]
                        intro q2 hq2
                        rcases List.mem_append.1 hq2 with h | h
                        · exact HF.out q2 h
                        · rw [List.mem_singleton] at h; rw [h, HHIT.out]; exact hb), Lib.hid (below_step HZ.out (pw_below_drewN HY6.out _))⟩, by simp [intOf]; omega⟩
                · obtain rfl : i = m := by omega
                  have hq_ : ¬ (i : Int) < (i : Int) := by omega
                  have hNX : X.length = i := HC3.out.1
                  have HNX := Lib.hid hNX
                  clear hNX hlt
                  go_wp2
                  go_ret
                  refine ⟨?_, below_step HBW.out (below_step HN4.out (below_step HY.out HZ.out))⟩
                  rw [hpm.out, if_pos (List.all_eq_true.2 (by have h := HF.out; rw [List.take_of_length_le (by have := HC3.out.1; omega)] at h; exact h))]
                  rfl
        · go_wp2_with (first
            | ((with_reducible refine gate_dst (N := 11) rfl ?_); refine box_event ?hg (N := 11) ?hd (cs := #[.string (⟨#[]⟩ : ByteArray), .string (⟨#[]⟩ : ByteArray)]) (t := 38) ?hr ?_; (case hd => rfl); (case hg => rfl); (case hr => first | (go_simp; done) | (go_simp; rfl)); intro gb hg wb hbox hb; have HN := Lib.hid (show Below wr.heap.size wr wb from hb); have GE := Lib.hid (show wr.heap.size ≤ gb by rw [hg]; exact Nat.le_refl _); have BK := Lib.hid hbox; clear hb hbox hg; have b0 : wb.cell? ⟨gb, 0, none⟩ = some (.string (⟨#[]⟩ : ByteArray)) := (blk_cell BK.out 0).trans rfl; have b1 : wb.cell? ⟨gb, 1, none⟩ = some (.string (⟨#[]⟩ : ByteArray)) := (blk_cell BK.out 1).trans rfl; have f0 := blk_frozen BK.out 0; have f1 := blk_frozen BK.out 1)
            | (go_at_call 31; (with_reducible refine (same_calls p.f0 qS _ hpz).mono ?_); rintro e w4 ⟨rfl, ⟨nd, rfl⟩⟩; rw [Bool.eq_false_iff.2 hq])
            | (
               at_builtin
               refine Kd.R_append k38 (w0 := w2) w2.heap.size rfl (.tmp 47) (.tmp 49) 30 38 (.agg #[(.string ⟨#[]⟩), (.string ⟨#[]⟩)]) 32 rfl Try.underlying30 info38 rfl (by decide) (by omega) _ (la.take i) p [.string p.f0, .string p.f1] (fun _ => True) (fun _ => False) rfl (by first | (go_simp; done) | (go_simp; rfl)) ?aP (fun _ h => h.elim) ?aF ?aO ?aB ?aS ?aL ?_
               (case aP => exact k38_mkM _ _ _ p)
               (case aF => exact fun _ _ => trivial)
               (case aO => exact Kd.R_below HR.out (by with_reducible repeat (first | exact HN.out | apply below_alloc | apply pw_below_drewN | apply below_drew1 | refine below_set ?_ GE.out)))
               (case aB => exact below_step HX.out (by with_reducible repeat (first | exact HN.out | apply below_alloc | apply pw_below_drewN | apply below_drew1 | refine below_set ?_ GE.out)))
               (case aS => exact (below_step HX.out (by with_reducible repeat (first | exact HN.out | apply below_alloc | apply pw_below_drewN | apply below_drew1 | refine below_set ?_ GE.out))).size)
               (case aL => first | omega | (rw [List.length_take]; omega))
               intro v9 w9 ho9 hb9 hg9 hat9
               have HO9 := Lib.hid ho9
               have HB9 := Lib.hid hb9
               clear ho9 hb9 hg9 hat9))
          exact ⟨⟨i + 1, by simp, by omega, Lib.hid (by rw [ht]; exact HO9.out), Lib.hid (by rw [ht]; intro q hq2; rcases List.mem_append.1 hq2 with hq2 | hq2; exact HNO.out q hq2; rw [List.mem_singleton] at hq2; rw [hq2]; exact hq), Lib.hid HB9.out⟩, by simp [intOf]; omega⟩
      · obtain rfl : i = la.length := by omega
        have hq_ : ¬ (la.length : Int) < (la.length : Int) := by omega
        have hX : wantS la = la.take la.length := want_all la (fun q hq2 => HNO.out q (by rw [List.take_length]; exact hq2))
        obtain ⟨W3, hW3⟩ : ∃ W, W = wr := ⟨_, rfl⟩
        have HN3 := Lib.hid (show Below wr.heap.size wr W3 by rw [hW3]; exact Below.refl _ _)
        go_upto_region 12 with fail
        rw [← hW3]
        clear hW3
        have hXl : (la.take la.length).length = la.length := by rw [List.length_take]; omega
        obtain ⟨X, hXd⟩ : ∃ X, la.take la.length = X := ⟨_, rfl⟩
        have sX := hla.take la.length
        rw [hXd] at hX HCX hXl sX
        have hX := Lib.hid hX
        have HC1 := Lib.hid (Kd.C_below HCX.out HN3.out)
        have HC2 := Lib.hid (Kd.C_below HCB.out (below_step HX.out HN3.out))
        have HBW := Lib.hid (below_step HB2.out (below_step HX.out HN3.out))
        have HL_0 := HLX
        have HL_1 := HLB
        clear hXd HN3 HCX HCB HX HR HNO HCA2 HB2 hXl
        go_wp2
        obtain ⟨W4, hW4⟩ : ∃ W, W = W3.alloc (.cells #[.slice Ax la.length cx, .slice Ab lb.length cb] 30) := ⟨_, rfl⟩
        rw [← hW4]
        have HN4 := Lib.hid (show Below W3.heap.size W3 W4 by rw [hW4]; exact below_alloc (Below.refl _ _) _)
        have k0 : W4.cell? ⟨W3.heap.size, 0, none⟩ = some (.slice Ax la.length cx) := by rw [hW4]; first | (go_simp; done) | (simp; done)
        have k1 : W4.cell? ⟨W3.heap.size, 1, none⟩ = some (.slice Ab lb.length cb) := by rw [hW4]; first | (go_simp; done) | (simp; done)
        have K0 := Lib.hid k0
        have K1 := Lib.hid k1
        clear hW4 k0 k1
        go_loopw [56] (fun kv wk => (kv = .int .i64 0 ∨ (kv = .int .i64 1 ∧ Hid (dupS X = false)) ∨ (kv = .int .i64 2 ∧ Hid (dupS X = false) ∧ Hid (dupS lb = false))) ∧ Hid (Below W4.heap.size W4 wk)) (fun kv _ => 2 - (intOf kv).toNat)
        case atStart => exact ⟨.inl rfl, Lib.hid (Below.refl _ _)⟩
        case round =>
          obtain ⟨hcase, HY⟩ := hrel
          obtain ⟨Wa, rfl⟩ : ∃ W, W = wr := ⟨_, rfl⟩
          have q0 : Wa.cell? ⟨W3.heap.size, 0, none⟩ = some (.slice Ax la.length cx) := (HY.out.cell (World.block_lt_of_cell? _ _ K0.out)).trans K0.out
          have q1 : Wa.cell? ⟨W3.heap.size, 1, none⟩ = some (.slice Ab lb.length cb) := (HY.out.cell (World.block_lt_of_cell? _ _ K1.out)).trans K1.out
          have HC3 := Lib.hid (Kd.C_below (Kd.C_below HC1.out HN4.out) HY.out)
          have HC4 := Lib.hid (Kd.C_below (Kd.C_below HC2.out HN4.out) HY.out)
          obtain rfl | ⟨rfl, D0⟩ | ⟨rfl, D0, D1⟩ := hcase
          · go_wp2
            go_loopw [62] (fun jv wi => ∃ j : Nat, jv = .int .i64 j ∧ j ≤ la.length ∧ Hid (∀ m : Nat, m < j → (findS (X.take m) ((X.getD m z38).f0)).isSome = false) ∧ Hid (Below Wa.heap.size Wa wi)) (fun jv _ => la.length - (intOf jv).toNat)
            case atStart => exact ⟨0, rfl, by omega, Lib.hid (by intro m hm; omega), Lib.hid (Below.refl _ _)⟩
            case round =>
              obtain ⟨j, rfl, hj, HF, HZ⟩ := hrel
              by_cases hlt : j < la.length
              · have hlt2 : j < X.length := by have := HC3.out.1; omega
                obtain ⟨p, hp⟩ : ∃ p, X[j]'hlt2 = p := ⟨_, rfl⟩
                have hlt' : decide ((j : Int) < (la.length : Int)) = true := decide_eq_true (by omega)
                obtain ⟨ad, e0, y0, y1⟩ := at_T38 (Kd.C_below HC3.out HZ.out) (j : Int) (by omega) (by omega)
                cases e0
                rw [rdSp_nat X _ hlt2, hp] at y0 y1
                simp only [Int.toNat_natCast] at y0 y1
                have hgd : X.getD j z38 = p := by rw [List.getD_eq_getElem?_getD, List.getElem?_eq_getElem hlt2, hp]; rfl
                have z0 : (0 : Int) ≤ (j : Int) := by omega
                have zN : j ≤ la.length := by omega
                have hjc : j ≤ cx := by have := HL_0.out; omega
                go_upto_region 18 with (first
                  | ((with_reducible refine gate_dst (N := 15) rfl ?_); refine box_event ?hg (N := 15) ?hd (cs := #[.string (⟨#[]⟩ : ByteArray), .string (⟨#[]⟩ : ByteArray)]) (t := 38) ?hr ?_; (case hd => rfl); (case hg => rfl); (case hr => first | (go_simp; done) | (go_simp; rfl)); intro gb hg wb hbox hb; have HN := Lib.hid (show Below wr.heap.size wr wb from hb); have GE := Lib.hid (show wr.heap.size ≤ gb by rw [hg]; exact Nat.le_refl _); have BK := Lib.hid hbox; clear hb hbox hg; have b0 : wb.cell? ⟨gb, 0, none⟩ = some (.string (⟨#[]⟩ : ByteArray)) := (blk_cell BK.out 0).trans rfl; have b1 : wb.cell? ⟨gb, 1, none⟩ = some (.string (⟨#[]⟩ : ByteArray)) := (blk_cell BK.out 1).trans rfl; have f0 := blk_frozen BK.out 0; have f1 := blk_frozen BK.out 1))
                obtain ⟨W5, hW5⟩ : ∃ W, W = (wb.setCell ⟨gb, 0, none⟩ (.string p.f0)).setCell ⟨gb, 1, none⟩ (.string p.f1) := ⟨_, rfl⟩
                rw [← hW5]
                have HN5 := Lib.hid (show Below wr.heap.size wr W5 by rw [hW5]; exact (by with_reducible repeat (first | exact HN.out | apply below_alloc | apply pw_below_drewN | apply below_drew1 | refine below_set ?_ GE.out)))
                have c0_ : W5.drew.cell? ⟨gb, 0, none⟩ = some (.string p.f0) := by rw [hW5]; first | (go_simp; done) | (simp; done)
                have c1_ : W5.cell? ⟨gb, 1, none⟩ = some (.string p.f1) := by rw [hW5]; first | (go_simp; done) | (simp; done)
                clear hW5 HN BK b0 b1 f0 f1 y0 y1
                obtain ⟨fv, hfv⟩ : ∃ b, (findS (X.take j) p.f0).isSome = b := ⟨_, rfl⟩
                have HV := Lib.hid (show ∀ W, Below W5.heap.size W5 W → Calls Try.prog 32 #[.slice (some ad) j cx, .string p.f0] W fun e w' => e = .returned (.tuple #[.string (valR (X.take j) p.f0), .bool fv]) ∧ Below W.heap.size W w' from by
                  intro W hW
                  have hC := HC3.out
                  have hlN : X.length = la.length := hC.1
                  rw [← hlN] at hC
                  have h1 := Kd.C_take (Kd.C_below (Kd.C_below (Kd.C_below hC HZ.out) HN5.out) hW) (show j ≤ X.length by omega)
                  have h2 := valueOf_calls (some ad) cx (X.take j) p.f0 W h1 (by rw [List.length_take]; have := HL_0.out; omega) (sX.take j)
                  rw [List.length_take, Nat.min_eq_left (by omega), hfv] at h2
                  exact h2)
                refine start_ (n := 11) (S := fun w' => w'.cell? ⟨gb, 0, none⟩ = some (.string p.f0)) (ds := []) #[false,false,false,false,false,false,false,false,false,false,false] (by kernel_rfl) rfl rfl c0_ (fun hHeld => ?_)
                generalize hWd : World.drew W5 = W2_ at hHeld ⊢
                refine pure_ (i := 0) (N := some 68) (v := ?_) (a' := ?_) #[true,false,false,false,false,false,false,false,false,false,false] rfl rfl (by kernel_rfl) (fun _ _ _ h => h) (Or.inl ⟨by rfl, ?_⟩) ?_ ?_
                rotate_left
                · intro w'
                  go_simp
                  with_reducible rfl
                rotate_left
                · simp only [Act.put, List.setIfInBounds_toArray, List.set_cons_zero, List.set_cons_succ, i64_w, i32_w]
                  rfl
                refine pure_ (i := 1) (N := some 69) (v := ?_) (a' := ?_) #[true,true,false,false,false,false,false,false,false,false,false] rfl rfl (by kernel_rfl) (fun _ _ _ h => h) (Or.inl ⟨by rfl, ?_⟩) ?_ ?_
                rotate_left
                · intro w'
                  go_simp
                  with_reducible rfl
                rotate_left
                · simp only [Act.put, List.setIfInBounds_toArray, List.set_cons_zero, List.set_cons_succ, i64_w, i32_w]
                  rfl
                refine pure_ (i := 2) (N := some 70) (v := ?_) (a' := ?_) #[true,true,true,false,false,false,false,false,false,false,false] rfl rfl (by kernel_rfl) (fun _ _ _ h => h) (Or.inl ⟨by rfl, ?_⟩) ?_ ?_
                rotate_left
                · intro w'
                  go_simp
                  with_reducible rfl
                rotate_left
                · simp only [Act.put, List.setIfInBounds_toArray, List.set_cons_zero, List.set_cons_succ, i64_w, i32_w]
                  rfl
                refine pure_ (i := 3) (N := some 71) (v := ?_) (a' := ?_) #[true,true,true,true,false,false,false,false,false,false,false] rfl rfl (by kernel_rfl) (fun _ _ _ h => h) (Or.inl ⟨by rfl, ?_⟩) ?_ ?_
                rotate_left
                · intro w'
                  go_simp
                  with_reducible rfl
                rotate_left
                · simp only [Act.put, List.setIfInBounds_toArray, List.set_cons_zero, List.set_cons_succ, i64_w, i32_w]
                  rfl
                refine take_ (i := 4) (N := some 72) (v := ?_) (a' := ?_) #[true,true,true,true,true,false,false,false,false,false,false] rfl rfl (by kernel_rfl) (fun _ _ _ h => h) (Or.inl ⟨by rfl, ?_⟩) hHeld ?_ ?_
                rotate_left
                · rintro w' s0
                  go_simp
                  with_reducible rfl
                rotate_left
                · simp only [Act.put, List.setIfInBounds_toArray, List.set_cons_zero, List.set_cons_succ, i64_w, i32_w]
                  rfl
                refine one_ (i := 5) (N := some 73) #[true,true,true,true,true,true,false,false,false,false,false] rfl rfl (by kernel_rfl) (by decide) (fun K hK => ?_)
                refine goes_ Try.func32 (by kernel_rfl) rfl #[.slice (some ad) j cx, .string p.f0] (by rfl) rfl rfl (by (try simp only [List.map_toArray, List.map_cons, List.map_nil]); first | done | rfl) ?_
                with_reducible refine (HV.out _ (by rw [← hWd]; exact below_drew1 (Below.refl _ _))).mono ?_
                rintro e w6 ⟨rfl, hb6⟩
                have HY6 := Lib.hid (show Below W5.heap.size W5 w6 from by rw [← hWd] at hb6; exact (below_drew1 (Below.refl _ _)).trans hb6)
                refine ⟨_, rfl, ?_⟩
                refine hK.out _ _ ((hb6.cell (World.block_lt_of_cell? _ _ hHeld)).trans hHeld) (fun hHeld => ?_)
                clear hK K
                refine norm_ (a' := ?_) ?_ ?_
                rotate_left
                · show Act.put _ (some 73) _ = _
                  simp only [Act.put, List.setIfInBounds_toArray, List.set_cons_zero, List.set_cons_succ, i64_w, i32_w]
                  rfl
                refine pure_ (i := 6) (N := some 67) (v := ?_) (a' := ?_) #[true,true,true,true,true,true,true,false,false,false,false] rfl rfl (by kernel_rfl) (fun _ _ _ h => h) (Or.inl ⟨by rfl, ?_⟩) ?_ ?_
                rotate_left
                · intro w'
                  go_simp
                  with_reducible rfl
                rotate_left
                · simp only [Act.put, List.setIfInBounds_toArray, List.set_cons_zero, List.set_cons_succ, i64_w, i32_w]
                  rfl
                refine pure_ (i := 7) (N := some 74) (v := ?_) (a' := ?_) #[true,true,true,true,true,true,true,true,false,false,false] rfl rfl (by kernel_rfl) (fun _ _ _ h => h) (Or.inl ⟨by rfl, ?_⟩) ?_ ?_
                rotate_left
                · intro w'
                  go_simp
                  with_reducible rfl
                rotate_left
                · simp only [Act.put, List.setIfInBounds_toArray, List.set_cons_zero, List.set_cons_succ, i64_w, i32_w]
                  rfl
                refine pure_ (i := 8) (N := some 75) (v := ?_) (a' := ?_) #[true,true,true,true,true,true,true,true,true,false,false] rfl rfl (by kernel_rfl) (fun _ _ _ h => h) (Or.inl ⟨by rfl, ?_⟩) ?_ ?_
                rotate_left
                · intro w'
                  go_simp
                  with_reducible rfl
                rotate_left
                · simp only [Act.put, List.setIfInBounds_toArray, List.set_cons_zero, List.set_cons_succ, i64_w, i32_w]
                  rfl
                refine pure_ (i := 9) (N := some 16) (v := ?_) (a' := ?_) #[true,true,true,true,true,true,true,true,true,true,false] rfl rfl (by kernel_rfl) (fun _ _ _ h => h) (Or.inl ⟨by rfl, ?_⟩) ?_ ?_
                rotate_left
                · intro w'
                  go_simp
                  with_reducible rfl
                rotate_left
                · simp only [Act.put, List.setIfInBounds_toArray, List.set_cons_zero, List.set_cons_succ, i64_w, i32_w]
                  rfl
                refine pure_ (i := 10) (N := some 17) (v := ?_) (a' := ?_) #[true,true,true,true,true,true,true,true,true,true,true] rfl rfl (by kernel_rfl) (fun _ _ _ h => h) (Or.inl ⟨by rfl, ?_⟩) ?_ ?_
                rotate_left
                · intro w'
                  go_simp
                  with_reducible rfl
                rotate_left
                · simp only [Act.put, List.setIfInBounds_toArray, List.set_cons_zero, List.set_cons_succ, i64_w, i32_w]
                  rfl
                refine done_ (by kernel_rfl) ?_
                cases fv with
                | true =>
                  go_wp2
                  go_ret
                  refine ⟨?_, below_step HBW.out (below_step HN4.out (below_step HY.out (below_step HZ.out (below_step HN5.out HY6.out))))⟩
                  rw [pmS, if_pos (.inl (by rw [hX.out]; exact dupS_true hlt2 (by rw [hgd]; exact hfv)))]
                  rfl
                | false =>
                  go_wp2
                  exact ⟨⟨j + 1, by simp, by omega, Lib.hid (by
                    intro m hm
                    rcases Nat.lt_or_ge m j with h | h
                    · exact HF.out m h
                    · obtain rfl : m = j := by omega
                      rw [hgd]; exact hfv), Lib.hid (below_step HZ.out (below_step HN5.out HY6.out))⟩, by simp [intOf]; omega⟩
              · obtain rfl : la.length = j := by omega
                have hq_ : ¬ (la.length : Int) < (la.length : Int) := by omega
                have hD : dupS X = false := dupS_false (by have := HC3.out.1; rw [this]; exact HF.out)
                go_wp2
                exact ⟨⟨.inr (.inl ⟨rfl, Lib.hid hD⟩), Lib.hid (below_step HY.out HZ.out)⟩, by simp [intOf]⟩
          · go_wp2
            go_loopw [62] (fun jv wi => ∃ j : Nat, jv = .int .i64 j ∧ j ≤ lb.length ∧ Hid (∀ m : Nat, m < j → (findS (lb.take m) ((lb.getD m z38).f0)).isSome = false) ∧ Hid (Below Wa.heap.size Wa wi)) (fun jv _ => lb.length - (intOf jv).toNat)
            case atStart => exact ⟨0, rfl, by omega, Lib.hid (by intro m hm; omega), Lib.hid (Below.refl _ _)⟩
            case round =>
              obtain ⟨j, rfl, hj, HF, HZ⟩ := hrel
              by_cases hlt : j < lb.length
              · have hlt2 : j < lb.length := by have := HC4.out.1; omega
                obtain ⟨p, hp⟩ : ∃ p, lb[j]'hlt2 = p := ⟨_, rfl⟩
                have hlt' : decide ((j : Int) < (lb.length : Int)) = true := decide_eq_true (by omega)
                obtain ⟨ad, e0, y0, y1⟩ := at_T38 (Kd.C_below HC4.out HZ.out) (j : Int) (by omega) (by omega)
                cases e0
                rw [rdSp_nat lb _ hlt2, hp] at y0 y1
                simp only [Int.toNat_natCast] at y0 y1
                have hgd : lb.getD j z38 = p := by rw [List.getD_eq_getElem?_getD, List.getElem?_eq_getElem hlt2, hp]; rfl
                have z0 : (0 : Int) ≤ (j : Int) := by omega
                have zN : j ≤ lb.length := by omega
                have hjc : j ≤ cb := by have := HL_1.out; omega
                go_upto_region 18 with (first
                  | ((with_reducible refine gate_dst (N := 15) rfl ?_); refine box_event ?hg (N := 15) ?hd (cs := #[.string (⟨#[]⟩ : ByteArray), .string (⟨#[]⟩ : ByteArray)]) (t := 38) ?hr ?_; (case hd => rfl); (case hg => rfl); (case hr => first | (go_simp; done) | (go_simp; rfl)); intro gb hg wb hbox hb; have HN := Lib.hid (show Below wr.heap.size wr wb from hb); have GE := Lib.hid (show wr.heap.size ≤ gb by rw [hg]; exact Nat.le_refl _); have BK := Lib.hid hbox; clear hb hbox hg; have b0 : wb.cell? ⟨gb, 0, none⟩ = some (.string (⟨#[]⟩ : ByteArray)) := (blk_cell BK.out 0).trans rfl; have b1 : wb.cell? ⟨gb, 1, none⟩ = some (.string (⟨#[]⟩ : ByteArray)) := (blk_cell BK.out 1).trans rfl; have f0 := blk_frozen BK.out 0; have f1 := blk_frozen BK.out 1))
                obtain ⟨W5, hW5⟩ : ∃ W, W = (wb.setCell ⟨gb, 0, none⟩ (.string p.f0)).setCell ⟨gb, 1, none⟩ (.string p.f1) := ⟨_, rfl⟩
                rw [← hW5]
                have HN5 := Lib.hid (show Below wr.heap.size wr W5 by rw [hW5]; exact (by with_reducible repeat (first | exact HN.out | apply below_alloc | apply pw_below_drewN | apply below_drew1 | refine below_set ?_ GE.out)))
                have c0_ : W5.drew.cell? ⟨gb, 0, none⟩ = some (.string p.f0) := by rw [hW5]; first | (go_simp; done) | (simp; done)
                have c1_ : W5.cell? ⟨gb, 1, none⟩ = some (.string p.f1) := by rw [hW5]; first | (go_simp; done) | (simp; done)
                clear hW5 HN BK b0 b1 f0 f1 y0 y1
                obtain ⟨fv, hfv⟩ : ∃ b, (findS (lb.take j) p.f0).isSome = b := ⟨_, rfl⟩
                have HV := Lib.hid (show ∀ W, Below W5.heap.size W5 W → Calls Try.prog 32 #[.slice (some ad) j cb, .string p.f0] W fun e w' => e = .returned (.tuple #[.string (valR (lb.take j) p.f0), .bool fv]) ∧ Below W.heap.size W w' from by
                  intro W hW
                  have hC := HC4.out
                  have hlN : lb.length = lb.length := hC.1
                  rw [← hlN] at hC
                  have h1 := Kd.C_take (Kd.C_below (Kd.C_below (Kd.C_below hC HZ.out) HN5.out) hW) (show j ≤ lb.length by omega)
                  have h2 := valueOf_calls (some ad) cb (lb.take j) p.f0 W h1 (by rw [List.length_take]; have := HL_1.out; omega) (hlb.take j)
                  rw [List.length_take, Nat.min_eq_left (by omega), hfv] at h2
                  exact h2)
                refine start_ (n := 11) (S := fun w' => w'.cell? ⟨gb, 0, none⟩ = some (.string p.f0)) (ds := []) #[false,false,false,false,false,false,false,false,false,false,false] (by kernel_rfl) rfl rfl c0_ (fun hHeld => ?_)
                generalize hWd : World.drew W5 = W2_ at hHeld ⊢
                refine pure_ (i := 0) (N := some 68) (v := ?_) (a' := ?_) #[true,false,false,false,false,false,false,false,false,false,false] rfl rfl (by kernel_rfl) (fun _ _ _ h => h) (Or.inl ⟨by rfl, ?_⟩) ?_ ?_
                rotate_left
                · intro w'
                  go_simp
                  with_reducible rfl
                rotate_left
                · simp only [Act.put, List.setIfInBounds_toArray, List.set_cons_zero, List.set_cons_succ, i64_w, i32_w]
                  rfl
                refine pure_ (i := 1) (N := some 69) (v := ?_) (a' := ?_) #[true,true,false,false,false,false,false,false,false,false,false] rfl rfl (by kernel_rfl) (fun _ _ _ h => h) (Or.inl ⟨by rfl, ?_⟩) ?_ ?_
                rotate_left
                · intro w'
                  go_simp
                  with_reducible rfl
                rotate_left
                · simp only [Act.put, List.setIfInBounds_toArray, List.set_cons_zero, List.set_cons_succ, i64_w, i32_w]
                  rfl
                refine pure_ (i := 2) (N := some 70) (v := ?_) (a' := ?_) #[true,true,true,false,false,false,false,false,false,false,false] rfl rfl (by kernel_rfl) (fun _ _ _ h => h) (Or.inl ⟨by rfl, ?_⟩) ?_ ?_
                rotate_left
                · intro w'
                  go_simp
                  with_reducible rfl
                rotate_left
                · simp only [Act.put, List.setIfInBounds_toArray, List.set_cons_zero, List.set_cons_succ, i64_w, i32_w]
                  rfl
                refine pure_ (i := 3) (N := some 71) (v := ?_) (a' := ?_) #[true,true,true,true,false,false,false,false,false,false,false] rfl rfl (by kernel_rfl) (fun _ _ _ h => h) (Or.inl ⟨by rfl, ?_⟩) ?_ ?_
                rotate_left
                · intro w'
                  go_simp
                  with_reducible rfl
                rotate_left
                · simp only [Act.put, List.setIfInBounds_toArray, List.set_cons_zero, List.set_cons_succ, i64_w, i32_w]
                  rfl
                refine take_ (i := 4) (N := some 72) (v := ?_) (a' := ?_) #[true,true,true,true,true,false,false,false,false,false,false] rfl rfl (by kernel_rfl) (fun _ _ _ h => h) (Or.inl ⟨by rfl, ?_⟩) hHeld ?_ ?_
                rotate_left
                · rintro w' s0
                  go_simp
                  with_reducible rfl
                rotate_left
                · simp only [Act.put, List.setIfInBounds_toArray, List.set_cons_zero, List.set_cons_succ, i64_w, i32_w]
                  rfl
                refine one_ (i := 5) (N := some 73) #[true,true,true,true,true,true,false,false,false,false,false] rfl rfl (by kernel_rfl) (by decide) (fun K hK => ?_)
                refine goes_ Try.func32 (by kernel_rfl) rfl #[.slice (some ad) j cb, .string p.f0] (by rfl) rfl rfl (by (try simp only [List.map_toArray, List.map_cons, List.map_nil]); first | done | rfl) ?_
                with_reducible refine (HV.out _ (by rw [← hWd]; exact below_drew1 (Below.refl _ _))).mono ?_
                rintro e w6 ⟨rfl, hb6⟩
                have HY6 := Lib.hid (show Below W5.heap.size W5 w6 from by rw [← hWd] at hb6; exact (below_drew1 (Below.refl _ _)).trans hb6)
                refine ⟨_, rfl, ?_⟩
                refine hK.out _ _ ((hb6.cell (World.block_lt_of_cell? _ _ hHeld)).trans hHeld) (fun hHeld => ?_)
                clear hK K
                refine norm_ (a' := ?_) ?_ ?_
                rotate_left
                · show Act.put _ (some 73) _ = _
                  simp only [Act.put, List.setIfInBounds_toArray, List.set_cons_zero, List.set_cons_succ, i64_w, i32_w]
                  rfl
                refine pure_ (i := 6) (N := some 67) (v := ?_) (a' := ?_) #[true,true,true,true,true,true,true,false,false,false,false] rfl rfl (by kernel_rfl) (fun _ _ _ h => h) (Or.inl ⟨by rfl, ?_⟩) ?_ ?_
                rotate_left
                · intro w'
                  go_simp
                  with_reducible rfl
                rotate_left
                · simp only [Act.put, List.setIfInBounds_toArray, List.set_cons_zero, List.set_cons_succ, i64_w, i32_w]
                  rfl
                refine pure_ (i := 7) (N := some 74) (v := ?_) (a' := ?_) #[true,true,true,true,true,true,true,true,false,false,false] rfl rfl (by kernel_rfl) (fun _ _ _ h => h) (Or.inl ⟨by rfl, ?_⟩) ?_ ?_
                rotate_left
                · intro w'
                  go_simp
                  with_reducible rfl
                rotate_left
                · simp only [Act.put, List.setIfInBounds_toArray, List.set_cons_zero, List.set_cons_succ, i64_w, i32_w]
                  rfl
                refine pure_ (i := 8) (N := some 75) (v := ?_) (a' := ?_) #[true,true,true,true,true,true,true,true,true,false,false] rfl rfl (by kernel_rfl) (fun _ _ _ h => h) (Or.inl ⟨by rfl, ?_⟩) ?_ ?_
                rotate_left
                · intro w'
                  go_simp
                  with_reducible rfl
                rotate_left
                · simp only [Act.put, List.setIfInBounds_toArray, List.set_cons_zero, List.set_cons_succ, i64_w, i32_w]
                  rfl
                refine pure_ (i := 9) (N := some 16) (v := ?_) (a' := ?_) #[true,true,true,true,true,true,true,true,true,true,false] rfl rfl (by kernel_rfl) (fun _ _ _ h => h) (Or.inl ⟨by rfl, ?_⟩) ?_ ?_
                rotate_left
                · intro w'
                  go_simp
                  with_reducible rfl
                rotate_left
                · simp only [Act.put, List.setIfInBounds_toArray, List.set_cons_zero, List.set_cons_succ, i64_w, i32_w]
                  rfl
                refine pure_ (i := 10) (N := some 17) (v := ?_) (a' := ?_) #[true,true,true,true,true,true,true,true,true,true,true] rfl rfl (by kernel_rfl) (fun _ _ _ h => h) (Or.inl ⟨by rfl, ?_⟩) ?_ ?_
                rotate_left
                · intro w'
                  go_simp
                  with_reducible rfl
                rotate_left
                · simp only [Act.put, List.setIfInBounds_toArray, List.set_cons_zero, List.set_cons_succ, i64_w, i32_w]
                  rfl
                refine done_ (by kernel_rfl) ?_
                cases fv with
                | true =>
                  go_wp2
                  go_ret
                  refine ⟨?_, below_step HBW.out (below_step HN4.out (below_step HY.out (below_step HZ.out (below_step HN5.out HY6.out))))⟩
                  rw [pmS, if_pos (.inr (dupS_true hlt2 (by rw [hgd]; exact hfv)))]
                  rfl
                | false =>
                  go_wp2
                  exact ⟨⟨j + 1, by simp, by omega, Lib.hid (by
                    intro m hm
                    rcases Nat.lt_or_ge m j with h | h
                    · exact HF.out m h
                    · obtain rfl : m = j := by omega
                      rw [hgd]; exact hfv), Lib.hid (below_step HZ.out (below_step HN5.out HY6.out))⟩, by simp [intOf]; omega⟩
              · obtain rfl : lb.length = j := by omega
                have hq_ : ¬ (lb.length : Int) < (lb.length : Int) := by omega
                have hD : dupS lb = false := dupS_false (by have := HC4.out.1; rw [this]; exact HF.out)
                go_wp2
                exact ⟨⟨.inr (.inr ⟨rfl, D0, Lib.hid hD⟩), Lib.hid (below_step HY.out HZ.out)⟩, by simp [intOf]⟩
          · go_wp2
            have hpm := Lib.hid <| show pmS la lb = if X.all (hitS lb) = true then 1 else 0 by
              rw [pmS, hX.out, if_neg (fun h => h.elim (by rw [D0.out]; simp) (by rw [D1.out]; simp))]
            go_loopw [81] (fun iv wi => ∃ m : Nat, iv = .int .i64 m ∧ m ≤ la.length ∧ Hid (∀ q ∈ X.take m, hitS lb q = true) ∧ Hid (Below Wa.heap.size Wa wi)) (fun iv _ => la.length - (intOf iv).toNat)
            case atStart => exact ⟨0, rfl, by omega, Lib.hid (by simp), Lib.hid (Below.refl _ _)⟩
            case round =>
              obtain ⟨m, rfl, hm, HF, HZ⟩ := hrel
              by_cases hlt : m < la.length
              · have hlt2 : m < X.length := by have := HC3.out.1; omega
                obtain ⟨p, hp⟩ : ∃ p, X[m]'hlt2 = p := ⟨_, rfl⟩
                have hlt' : decide ((m : Int) < (la.length : Int)) = true := decide_eq_true (by omega)
                obtain ⟨ad, e0, y0, y1⟩ := at_T38 (Kd.C_below HC3.out HZ.out) (m : Int) (by omega) (by omega)
                cases e0
                rw [rdSp_nat X _ hlt2, hp] at y0 y1
                simp only [Int.toNat_natCast] at y0 y1
                have hmem : p ∈ X := by rw [← hp]; exact List.getElem_mem hlt2
                have ht : X.take (m + 1) = X.take m ++ [p] := by rw [List.take_succ_eq_append_getElem hlt2, hp]
                cases hf : findS lb p.f0 with
                | none =>
                  have hval : valR lb p.f0 = ⟨#[]⟩ := by rw [valR, hf]
                  have his : (findS lb p.f0).isSome = false := by rw [hf]; rfl
                  have hno : hitS lb p = false := by rw [hitS, hf]
                  have HNO := Lib.hid hno
                  clear hf hno
                  go_wp2_with (first
                    | ((with_reducible refine gate_dst (N := 19) rfl ?_); refine box_event ?hg (N := 19) ?hd (cs := #[.string (⟨#[]⟩ : ByteArray), .string (⟨#[]⟩ : ByteArray)]) (t := 38) ?hr ?_; (case hd => rfl); (case hg => rfl); (case hr => first | (go_simp; done) | (go_simp; rfl)); intro gb hg wb hbox hb; have HN := Lib.hid (show Below wr.heap.size wr wb from hb); have GE := Lib.hid (show wr.heap.size ≤ gb by rw [hg]; exact Nat.le_refl _); have BK := Lib.hid hbox; clear hb hbox hg; have b0 : wb.cell? ⟨gb, 0, none⟩ = some (.string (⟨#[]⟩ : ByteArray)) := (blk_cell BK.out 0).trans rfl; have b1 : wb.cell? ⟨gb, 1, none⟩ = some (.string (⟨#[]⟩ : ByteArray)) := (blk_cell BK.out 1).trans rfl; have f0 := blk_frozen BK.out 0; have f1 := blk_frozen BK.out 1)
                    | (go_at_call 32; have d0 : ((wb.setCell ⟨gb, 0, none⟩ (.string p.f0)).setCell ⟨gb, 1, none⟩ (.string p.f1)).cell? ⟨gb, 1, none⟩ = some (.string p.f1) := (by first | (go_simp; done) | (simp; done)); (with_reducible refine (valueOf_calls Ab cb lb p.f0 _ (Kd.C_below (Kd.C_below HC4.out HZ.out) (by with_reducible repeat (first | exact HN.out | apply below_alloc | apply pw_below_drewN | apply below_drew1 | refine below_set ?_ GE.out))) HL_1.out hlb).mono ?_); rintro e w6 ⟨rfl, hb6⟩; have HY6 := Lib.hid (below_step (by with_reducible repeat (first | exact HN.out | apply below_alloc | apply pw_below_drewN | apply below_drew1 | refine below_set ?_ GE.out)) hb6); have d1 : w6.cell? ⟨gb, 1, none⟩ = some (.string p.f1) := (hb6.cell (World.block_lt_of_cell? _ _ d0)).trans d0; clear hb6; rw [hval, his]))
                  go_ret
                  refine ⟨?_, below_step HBW.out (below_step HN4.out (below_step HY.out (below_step HZ.out HY6.out)))⟩
                  rw [hpm.out, if_neg (fun h => by have := List.all_eq_true.1 h p hmem; rw [HNO.out] at this; cases this)]
                  rfl
                | some q =>
                  have hval : valR lb p.f0 = q.f1 := by rw [valR, hf]
                  have his : (findS lb p.f0).isSome = true := by rw [hf]; rfl
                  have hqz : q.f1.size ≤ 1099511627776 := (hlb.2 q (List.mem_of_find?_eq_some hf)).2
                  have hhit : hitS lb p = eqFold q.f1 p.f1 := by rw [hitS, hf]
                  have HHIT := Lib.hid hhit
                  clear hf hhit
                  cases hb : eqFold q.f1 p.f1 with
                  | false =>
                    go_wp2_with (first
                      | ((with_reducible refine gate_dst (N := 19) rfl ?_); refine box_event ?hg (N := 19) ?hd (cs := #[.string (⟨#[]⟩ : ByteArray), .string (⟨#[]⟩ : ByteArray)]) (t := 38) ?hr ?_; (case hd => rfl); (case hg => rfl); (case hr => first | (go_simp; done) | (go_simp; rfl)); intro gb hg wb hbox hb; have HN := Lib.hid (show Below wr.heap.size wr wb from hb); have GE := Lib.hid (show wr.heap.size ≤ gb by rw [hg]; exact Nat.le_refl _); have BK := Lib.hid hbox; clear hb hbox hg; have b0 : wb.cell? ⟨gb, 0, none⟩ = some (.string (⟨#[]⟩ : ByteArray)) := (blk_cell BK.out 0).trans rfl; have b1 : wb.cell? ⟨gb, 1, none⟩ = some (.string (⟨#[]⟩ : ByteArray)) := (blk_cell BK.out 1).trans rfl; have f0 := blk_frozen BK.out 0; have f1 := blk_frozen BK.out 1)
                      | (go_at_call 32; have d0 : ((wb.setCell ⟨gb, 0, none⟩ (.string p.f0)).setCell ⟨gb, 1, none⟩ (.string p.f1)).cell? ⟨gb, 1, none⟩ = some (.string p.f1) := (by first | (go_simp; done) | (simp; done)); (with_reducible refine (valueOf_calls Ab cb lb p.f0 _ (Kd.C_below (Kd.C_below HC4.out HZ.out) (by with_reducible repeat (first | exact HN.out | apply below_alloc | apply pw_below_drewN | apply below_drew1 | refine below_set ?_ GE.out))) HL_1.out hlb).mono ?_); rintro e w6 ⟨rfl, hb6⟩; have HY6 := Lib.hid (below_step (by with_reducible repeat (first | exact HN.out | apply below_alloc | apply pw_below_drewN | apply below_drew1 | refine below_set ?_ GE.out)) hb6); have d1 : w6.cell? ⟨gb, 1, none⟩ = some (.string p.f1) := (hb6.cell (World.block_lt_of_cell? _ _ d0)).trans d0; clear hb6; rw [hval, his])
                      | (go_at_call 31; (with_reducible refine (same_calls q.f1 p.f1 _ hqz).mono ?_); rintro e w7 ⟨rfl, ⟨nd, rfl⟩⟩; rw [hb]))
                    go_ret
                    refine ⟨?_, below_step HBW.out (below_step HN4.out (below_step HY.out (below_step HZ.out (pw_below_drewN HY6.out _))))⟩
                    rw [hpm.out, if_neg (fun h => by have := List.all_eq_true.1 h p hmem; rw [HHIT.out, hb] at this; cases this)]
                    rfl
                  | true =>
                    go_wp2_with (first
                      | ((with_reducible refine gate_dst (N := 19) rfl ?_); refine box_event ?hg (N := 19) ?hd (cs := #[.string (⟨#[]⟩ : ByteArray), .string (⟨#[]⟩ : ByteArray)]) (t := 38) ?hr ?_; (case hd => rfl); (case hg => rfl); (case hr => first | (go_simp; done) | (go_simp; rfl)); intro gb hg wb hbox hb; have HN := Lib.hid (show Below wr.heap.size wr wb from hb); have GE := Lib.hid (show wr.heap.size ≤ gb by rw [hg]; exact Nat.le_refl _); have BK := Lib.hid hbox; clear hb hbox hg; have b0 : wb.cell? ⟨gb, 0, none⟩ = some (.string (⟨#[]⟩ : ByteArray)) := (blk_cell BK.out 0).trans rfl; have b1 : wb.cell? ⟨gb, 1, none⟩ = some (.string (⟨#[]⟩ : ByteArray)) := (blk_cell BK.out 1).trans rfl; have f0 := blk_frozen BK.out 0; have f1 := blk_frozen BK.out 1)
                      | (go_at_call 32; have d0 : ((wb.setCell ⟨gb, 0, none⟩ (.string p.f0)).setCell ⟨gb, 1, none⟩ (.string p.f1)).cell? ⟨gb, 1, none⟩ = some (.string p.f1) := (by first | (go_simp; done) | (simp; done)); (with_reducible refine (valueOf_calls Ab cb lb p.f0 _ (Kd.C_below (Kd.C_below HC4.out HZ.out) (by with_reducible repeat (first | exact HN.out | apply below_alloc | apply pw_below_drewN | apply below_drew1 | refine below_set ?_ GE.out))) HL_1.out hlb).mono ?_); rintro e w6 ⟨rfl, hb6⟩; have HY6 := Lib.hid (below_step (by with_reducible repeat (first | exact HN.out | apply below_alloc | apply pw_below_drewN | apply below_drew1 | refine below_set ?_ GE.out)) hb6); have d1 : w6.cell? ⟨gb, 1, none⟩ = some (.string p.f1) := (hb6.cell (World.block_lt_of_cell? _ _ d0)).trans d0; clear hb6; rw [hval, his])
                      | (go_at_call 31; (with_reducible refine (same_calls q.f1 p.f1 _ hqz).mono ?_); rintro e w7 ⟨rfl, ⟨nd, rfl⟩⟩; rw [hb]))
                    exact ⟨⟨m + 1, by simp, by omega, Lib.hid (by
                      rw [ht]
                      intro q2 hq2
                      rcases List.mem_append.1 hq2 with h | h
                      · exact HF.out q2 h
                      · rw [List.mem_singleton] at h; rw [h, HHIT.out]; exact hb), Lib.hid (below_step HZ.out (pw_below_drewN HY6.out _))⟩, by simp [intOf]; omega⟩
              · obtain rfl : la.length = m := by omega
                have hq_ : ¬ (la.length : Int) < (la.length : Int) := by omega
                have hNX : X.length = la.length := HC3.out.1
                have HNX := Lib.hid hNX
                clear hNX hlt
                go_wp2
                go_ret
                refine ⟨?_, below_step HBW.out (below_step HN4.out (below_step HY.out HZ.out))⟩
                rw [hpm.out, if_pos (List.all_eq_true.2 (by have h := HF.out; rw [List.take_of_length_le (by have := HC3.out.1; omega)] at h; exact h))]
                rfl
def spec_ParamsMatch.f (k : Nat) (a0 a1 : ByteArray) : Option Int :=
  if a0.size ≤ 1099511627776 then (if a1.size ≤ 1099511627776 then ((spec_Params.f k a0 (-1)).bind fun ra => (spec_Params.f k a1 (-1)).bind fun rb => some (if ra.2 ≠ 1 ∨ rb.2 ≠ 1 then 2 else pmS ra.1 rb.1)) else none) else none
theorem strOf_size (l : List Int) : (strOfNums l).size = l.length := by simp [strOfNums, ByteArray.size]
theorem valP_sizes {u : List Int} {r : List Int × List Int} (h : valP u = some r) : r.1.length ≤ u.length ∧ r.2.length < u.length := by
  unfold valP at h
  have hq := quoN_le (u.drop 1) false
  rw [List.length_drop] at hq
  split at h
  · cases h
  · split at h
    · split at h
      · obtain rfl := Option.some.inj h
        exact ⟨by rw [List.length_take, List.length_drop]; omega, by rw [List.length_drop]; omega⟩
      · cases h
    · split at h
      · cases h
      · obtain rfl := Option.some.inj h
        exact ⟨by rw [List.length_take]; omega, by rw [List.length_drop]; omega⟩
theorem oneU_sizes {u p v rest : List Int} (h : oneU u = some (p, v, rest)) : p.length ≤ u.length ∧ v.length ≤ u.length ∧ rest.length < u.length := by
  obtain ⟨N, hN⟩ : ∃ N, tokN u = N := ⟨_, rfl⟩
  by_cases h0 : N = 0
  · rw [oneU_n0 (by omega)] at h; cases h
  · by_cases h1 : u.length ≤ N + 1 ∨ u.getD N 0 ≠ 61
    · rw [oneU_eq hN h1] at h; cases h
    · have h2 : ¬ u.length ≤ N + 1 := fun g => h1 (.inl g)
      have h3 : u.getD N 0 = 61 := Decidable.not_not.1 (fun g => h1 (.inr g))
      rw [oneU_val hN h0 (by omega) h3] at h
      obtain ⟨r, hr, e⟩ := Option.map_eq_some_iff.1 h
      have hs := valP_sizes hr
      rw [List.length_drop] at hs
      simp only [Prod.mk.injEq] at e
      obtain ⟨rfl, rfl, rfl⟩ := e
      exact ⟨by rw [List.length_take]; omega, by omega, by omega⟩
theorem one_sizes {xs p v rest : List Int} (h : oneP xs = some (p, v, rest)) : p.length < xs.length ∧ v.length < xs.length ∧ rest.length < xs.length := by
  unfold oneP at h
  have h1 := p_ltrim_le xs
  have h2 := p_ltrim_le ((ltrim xs).drop 1)
  rw [List.length_drop] at h2
  split at h
  · cases h
  · rename_i g
    have h3 : ¬ (ltrim xs).length = 0 := fun e => g (.inl e)
    have := oneU_sizes h
    omega
theorem parL_small : ∀ (f : Nat) (xs : List Int) (n : Nat), xs.length ≤ n → (parL f xs).length ≤ n ∧ ∀ p ∈ parL f xs, p.1.size ≤ n ∧ p.2.size ≤ n
  | 0, xs, n, h => ⟨by simp [parL], by simp [parL]⟩
  | f + 1, xs, n, h => by
    rw [parL]
    cases e : oneP xs with
    | none => simp
    | some r =>
      obtain ⟨p, v, rest⟩ := r
      have hs := one_sizes e
      have ih := parL_small f rest (n - 1) (by omega)
      simp only
      refine ⟨by rw [List.length_cons]; omega, fun q hq => ?_⟩
      rcases List.mem_cons.1 hq with rfl | hq
      · exact ⟨by rw [strOf_size]; omega, by rw [strOf_size]; omega⟩
      · have := ih.2 q hq; omega
theorem small_of (x : ByteArray) (hx : x.size ≤ 1099511627776) (m : Int) (r : List Sp × Int) (k : Nat) (h : spec_Params.f k x m = some r) : r.2 = 2 ∨ (r.2 = 1 ∧ 9 ∉ ns x ∧ r.1 = (takeM m 0 (parL x.size (ns x))).map toSp ∧ Small r.1) := by
  obtain ⟨r', hr, hc⟩ := params_ends x m hx
  obtain ⟨K, hK⟩ := hr
  have e : r = r' := by
    have h1 : spec_Params.f (max K k) x m = some r' := hK (max K k) (Nat.le_max_left _ _)
    have h2 := at_rounds (fun k => spec_Params.mono x m k) (Nat.le_max_right K k) h
    rw [h1] at h2
    exact (Option.some.inj h2).symm
  subst e
  refine hc.imp id (fun ⟨a, b, c⟩ => ⟨a, b, c, ?_⟩)
  have hp := parL_small x.size (ns x) x.size (by rw [ns_length]; exact Nat.le_refl _)
  have ht : ∀ p ∈ takeM m 0 (parL x.size (ns x)), p ∈ parL x.size (ns x) := by
    intro p hp2
    unfold takeM at hp2
    split at hp2
    · exact hp2
    · exact List.mem_of_mem_take hp2
  have hl : (takeM m 0 (parL x.size (ns x))).length ≤ (parL x.size (ns x)).length := by
    unfold takeM
    split
    · exact Nat.le_refl _
    · rw [List.length_take]; omega
  rw [c]
  refine ⟨by rw [List.length_map]; omega, fun q hq => ?_⟩
  obtain ⟨p, hp2, rfl⟩ := List.mem_map.1 hq
  have := hp.2 p (ht p hp2)
  exact ⟨by show p.1.size ≤ _; omega, by show p.2.size ≤ _; omega⟩
theorem spec_ParamsMatch.calls (k : Nat) (a0 a1 : ByteArray) (r : Int) (w : World) (h : spec_ParamsMatch.f k a0 a1 = some r) :
    Calls Try.prog 15 #[.string a0, .string a1] w fun e w' => e = .returned (.int .i64 r) ∧ Below w.heap.size w w' := by
  unfold spec_ParamsMatch.f at h
  by_cases h0 : a0.size ≤ 1099511627776
  · rw [if_pos h0] at h
    by_cases h1 : a1.size ≤ 1099511627776
    · rw [if_pos h1] at h
      obtain ⟨⟨la, sa⟩, ha, h⟩ := Option.bind_eq_some_iff.1 h
      obtain ⟨⟨lb, sb⟩, hb, h⟩ := Option.bind_eq_some_iff.1 h
      obtain rfl := Option.some.inj h
      by_cases hs : sa ≠ 1 ∨ sb ≠ 1
      · have := specPM_two a0 a1 k k la lb sa sb ha hb hs w
        rw [show (if (la, sa).2 ≠ 1 ∨ (lb, sb).2 ≠ 1 then (2 : Int) else pmS (la, sa).1 (lb, sb).1) = 2 from if_pos hs]
        exact this
      · obtain ⟨hsa, hsb⟩ := not_or.1 hs
        obtain rfl : sa = 1 := Decidable.not_not.1 hsa
        obtain rfl : sb = 1 := Decidable.not_not.1 hsb
        have ca := small_of a0 h0 (-1) _ k ha
        have cb := small_of a1 h1 (-1) _ k hb
        refine specPM_one a0 a1 k k la lb ha hb (ca.resolve_left (by simp)).2.2.2 (cb.resolve_left (by simp)).2.2.2 w
    · rw [if_neg h1] at h; cases h
  · rw [if_neg h0] at h; cases h
abbrev Ip := S36
def toIp (p : ByteArray × ByteArray) : Ip := ⟨p.1, p.2⟩
def pr2L (p : ByteArray × ByteArray) : List ByteArray := [p.1, p.2]
theorem zz_run (most : Int) (hm : most ≠ 0) (hb : most ≤ 50) : ∀ (l : SP) (outs : List ByteArray) (c : Nat), outs.length = 2 * c → (0 < most → (c : Int) < most) → runL (zzStep most) outs l = outs ++ (takeM most c l).flatMap pr2L
  | [], outs, c, _, _ => by rw [runL, takeM_nil']; simp
  | p :: t, outs, c, hl, hc => by
    have hcm : most < 0 ∨ (c : Int) < most := by
      by_cases h : most < 0
      · exact .inl h
      · exact .inr (hc (by omega))
    rw [runL, takeM_cons hcm, List.flatMap_cons]
    have e : (zzStep most outs p.1 p.2).2 = outs ++ pr2L p := rfl
    have hl2 : (outs ++ pr2L p).length = 2 * (c + 1) := by rw [List.length_append, hl]; simp [pr2L]; omega
    by_cases h : most < 0
    · have e1 : (zzStep most outs p.1 p.2).1 = true := by simp [zzStep, h]
      rw [e1, if_pos rfl, e, zz_run most hm hb t _ (c + 1) hl2 (fun g => by omega), List.append_assoc]
    · have hw : wrap64 (2 * most) = 2 * most := by unfold wrap64; omega
      have e1 : (zzStep most outs p.1 p.2).1 = decide (((outs.length + 2 : Nat) : Int) < 2 * most) := by simp [zzStep, h, hw]
      rw [e1, e]
      by_cases g : ((outs.length + 2 : Nat) : Int) < 2 * most
      · rw [if_pos (decide_eq_true g), zz_run most hm hb t _ (c + 1) hl2 (fun _ => by omega), List.append_assoc]
      · rw [if_neg (by simpa using g), takeM_nil h (by omega)]
        simp
theorem zzOf_is (x : ByteArray) (most : Int) (hb : most ≤ 50) : zzOf x most = (takeM most 0 (parL x.size (ns x))).flatMap pr2L := by
  unfold zzOf
  by_cases h : most = 0
  · rw [if_pos h, takeM_nil (by omega) (by omega)]; rfl
  · rw [if_neg h, fold_run, zz_run most h hb _ [] 0 rfl (fun g => by omega), List.nil_append]
theorem flat_at : ∀ (L : SP) (i : Nat) (h : i < L.length), (L.flatMap pr2L)[2 * i]? = some (L[i]).1 ∧ (L.flatMap pr2L)[2 * i + 1]? = some (L[i]).2
  | p :: t, 0, _ => ⟨rfl, rfl⟩
  | p :: t, i + 1, h => by
    have := flat_at t i (by simpa using h)
    rw [List.flatMap_cons]
    refine ⟨?_, ?_⟩
    · rw [List.getElem?_append_right (by simp [pr2L]; omega)]
      simpa [pr2L, show 2 * (i + 1) - 2 = 2 * i by omega] using this.1
    · rw [List.getElem?_append_right (by simp [pr2L]; omega)]
      simpa [pr2L, show 2 * (i + 1) + 1 - 2 = 2 * i + 1 by omega] using this.2
theorem flat_len (L : SP) : (L.flatMap pr2L).length = 2 * L.length := by
  induction L with
  | nil => rfl
  | cons p t ih => rw [List.flatMap_cons, List.length_append, ih, List.length_cons]; simp [pr2L]; omega
theorem pairsL_from (L : SP) (hL : L.length ≤ 1099511627776) : ∀ (d i : Nat) (acc : List Ip), i + d = L.length → acc = (L.take i).map toIp → Ev (fun k => impl_Params.l0 k (L.flatMap pr2L) acc ((2 * i : Nat) : Int)) (L.map toIp) := by
  intro d
  have hfl := flat_len L
  induction d with
  | zero =>
    intro i acc hi ha
    have hw := Lib.hid (show wrap64 (((2 * i : Nat) : Int) + 1) = ((2 * i + 1 : Nat) : Int) by rw [wrap_add (by omega) (by omega)]; rfl)
    have z : ¬ ((2 * i + 1 : Nat) : Int) < ((L.flatMap pr2L).length : Int) := by omega
    rw [ha, List.take_of_length_le (by omega)]
    exact Ev.step (f := fun _ => some _) (fun k => by rw [impl_Params.l0, hw.out, if_neg z]) (Ev.now _)
  | succ d ih =>
    intro i acc hi ha
    have hlt : i < L.length := by omega
    obtain ⟨g0, g1⟩ := flat_at L i hlt
    have r0 : rdOf ByteArray.empty (L.flatMap pr2L) ((2 * i : Nat) : Int) = (L[i]).1 := by
      rw [rdOf_nat _ _ _ (by omega)]; exact Option.some.inj ((List.getElem?_eq_getElem _).symm.trans g0)
    have r1 : rdOf ByteArray.empty (L.flatMap pr2L) ((2 * i + 1 : Nat) : Int) = (L[i]).2 := by
      rw [rdOf_nat _ _ _ (by omega)]; exact Option.some.inj ((List.getElem?_eq_getElem _).symm.trans g1)
    have hal : acc.length = i := by rw [ha, List.length_map, List.length_take]; omega
    have z1 : ((2 * i + 1 : Nat) : Int) < ((L.flatMap pr2L).length : Int) := by omega
    have z2 : (0 : Int) ≤ ((2 * i : Nat) : Int) := by omega
    have z3 : ((2 * i : Nat) : Int) < ((L.flatMap pr2L).length : Int) := by omega
    have z4 : (0 : Int) ≤ ((2 * i + 1 : Nat) : Int) := by omega
    have z5 : acc.length < 4398046511104 := by omega
    have hw2 := Lib.hid (show wrap64 (((2 * i : Nat) : Int) + 2) = ((2 * (i + 1) : Nat) : Int) by unfold wrap64; omega)
    have hw := Lib.hid (show wrap64 (((2 * i : Nat) : Int) + 1) = ((2 * i + 1 : Nat) : Int) by rw [wrap_add (by omega) (by omega)]; rfl)
    refine Ev.step (f := fun k => impl_Params.l0 k (L.flatMap pr2L) (acc ++ [toIp L[i]]) ((2 * (i + 1) : Nat) : Int)) (fun k => ?_) (ih (i + 1) _ (by omega) ?_)
    · rw [impl_Params.l0, hw.out, hw2.out, if_pos z1, if_pos z2, if_pos z3, if_pos z4, if_pos z5, r0, r1]
      rfl
    · rw [ha, List.take_succ_eq_append_getElem hlt, List.map_append]; rfl
theorem implParams_ends (x : ByteArray) (most : Int) (hx : x.size ≤ 1099511627776) (hb : most ≤ 50) (hl : (takeM most 0 (parL x.size (ns x))).length ≤ 1099511627776) : Ev (fun k => impl_Params.f k x most) ((takeM most 0 (parL x.size (ns x))).map toIp) := by
  have e : fiberhelpers_ZzParams.f x most = some ((takeM most 0 (parL x.size (ns x))).flatMap pr2L) := by
    unfold fiberhelpers_ZzParams.f
    rw [if_pos hx, zzOf_is x most hb]
  exact Ev.call e (pairsL_from _ hl (takeM most 0 (parL x.size (ns x))).length 0 [] (by omega) rfl)
theorem find_toSp (l : SP) (name : ByteArray) : findS (l.map toSp) name = (l.find? (fun p => eqFold name p.1)).map toSp := by
  unfold findS
  rw [List.find?_map]
  congr 2
  funext p
  exact eqFold_symm _ _
theorem hit_toSp (lb : SP) (p : ByteArray × ByteArray) : hitS (lb.map toSp) (toSp p) = hitL lb p := by
  unfold hitS hitL
  rw [show (toSp p).f0 = p.1 from rfl, find_toSp]
  cases lb.find? (fun q => eqFold p.1 q.1) with
  | none => rfl
  | some q => exact eqFold_symm _ _
theorem up_q : ∀ n : Fin 256, Gv.up ((n.val : Nat) : Int) = 81 → n.val = 113 ∨ n.val = 81 := by decide +kernel
theorem isQ_fold (p : ByteArray) : isQ p = eqFold p qS := by
  unfold isQ eqFold
  refine decide_eq_decide.2 ?_
  have e : (ns qS).map Gv.up = [81] := by decide
  rw [e]
  constructor
  · rintro (h | h)
    · have h2 : p = ⟨#[113]⟩ := (toList_eq_iff p ⟨#[113]⟩).1 (h.trans (by rw [Lib.toList_data]))
      rw [h2]; decide
    · have h2 : p = ⟨#[81]⟩ := (toList_eq_iff p ⟨#[81]⟩).1 (h.trans (by rw [Lib.toList_data]))
      rw [h2]; decide
  · intro h
    obtain ⟨c, hc, hcu⟩ := List.map_eq_singleton_iff.1 h
    have hr := ns_range p c (by rw [hc]; exact List.mem_cons_self ..)
    have h2 : c = 113 ∨ c = 81 := by
      obtain ⟨n, rfl⟩ := Int.eq_ofNat_of_zero_le hr.1
      have := up_q ⟨n, by omega⟩ hcu
      simp only at this
      omega
    rcases h2 with rfl | rfl
    · exact .inl (((toList_eq_iff p ⟨#[113]⟩).2 (ns_inj (by rw [hc]; rfl))).trans (by rw [Lib.toList_data]))
    · exact .inr (((toList_eq_iff p ⟨#[81]⟩).2 (ns_inj (by rw [hc]; rfl))).trans (by rw [Lib.toList_data]))
theorem want_toSp (l : SP) : wantS (l.map toSp) = (wantL l).map toSp := by
  unfold wantS wantL
  rw [List.takeWhile_map]
  congr 2
  funext p
  show (!eqFold p.1 qS) = !isQ p.1
  rw [isQ_fold]
theorem dup_toSp : ∀ (t acc : SP), (∀ m : Nat, m < t.length → (findS ((acc ++ t.take m).map toSp) ((t.map toSp).getD m z38).f0).isSome = false) → dupL acc t = false
  | [], acc, _ => rfl
  | p :: t, acc, h => by
    rw [dupL, Bool.or_eq_false_iff]
    refine ⟨?_, dup_toSp t (acc ++ [p]) (fun m hm => ?_)⟩
    · have h0 := h 0 (by simp)
      rw [List.take_zero, List.append_nil, List.map_cons, List.getD_cons_zero, find_toSp, show (toSp p).f0 = p.1 from rfl, Option.isSome_map] at h0
      rw [Bool.eq_false_iff] at h0 ⊢
      intro g
      refine h0 ?_
      rw [List.find?_isSome]
      obtain ⟨q, hq, hq2⟩ := List.any_eq_true.1 g
      exact ⟨q, hq, hq2⟩
    · have h1 := h (m + 1) (by simpa using hm)
      rw [List.take_succ_cons, List.map_cons, List.getD_cons_succ] at h1
      rw [List.append_assoc, List.singleton_append]
      exact h1
theorem dup_false {l : SP} (h : dupS (l.map toSp) = false) : dupL [] l = false := by
  refine dup_toSp l [] (fun m hm => ?_)
  have h1 := List.any_eq_false.1 h m (by rw [List.mem_range, List.length_map]; exact hm)
  rw [List.nil_append]
  rw [← List.map_take] at h1
  simpa using h1
theorem match_says (a0 a1 : ByteArray) (h : pmS ((parL a0.size (ns a0)).map toSp) ((parL a1.size (ns a1)).map toSp) ≠ 2) :
    matchOf a0 a1 = (pmS ((parL a0.size (ns a0)).map toSp) ((parL a1.size (ns a1)).map toSp) == 1) := by
  unfold pmS at h ⊢
  split at h
  · exact absurd rfl h
  · rename_i hd
    rw [if_neg hd, matchOf_is a0 a1 (dup_false (by
      rw [← want_toSp]
      exact Bool.eq_false_iff.2 (fun g => hd (.inl g)))), want_toSp]
    have e : ((wantL (parL a0.size (ns a0))).map toSp).all (hitS ((parL a1.size (ns a1)).map toSp)) = (wantL (parL a0.size (ns a0))).all (hitL (parL a1.size (ns a1))) := by
      rw [List.all_map]
      congr 1
      funext p
      exact hit_toSp _ p
    rw [e]
    cases (wantL (parL a0.size (ns a0))).all (hitL (parL a1.size (ns a1))) <;> rfl
theorem specPM_ends (a0 a1 : ByteArray) (h0 : a0.size ≤ 1099511627776) (h1 : a1.size ≤ 1099511627776) : ∃ r, Ev (fun k => spec_ParamsMatch.f k a0 a1) r ∧ (r = 2 ∨ matchOf a0 a1 = (r == 1)) := by
  obtain ⟨ra, ha, ca⟩ := params_ends a0 (-1) h0
  obtain ⟨rb, hb, cb⟩ := params_ends a1 (-1) h1
  refine ⟨if ra.2 ≠ 1 ∨ rb.2 ≠ 1 then 2 else pmS ra.1 rb.1, Ev.if_true h0 (Ev.if_true h1 (Ev.bind ha (Ev.bind hb (Ev.now _)))), ?_⟩
  by_cases hs : ra.2 ≠ 1 ∨ rb.2 ≠ 1
  · rw [if_pos hs]; exact .inl rfl
  · rw [if_neg hs]
    obtain ⟨hsa, hsb⟩ := not_or.1 hs
    have ea := ca.resolve_left (fun g => hsa (by rw [g]; decide))
    have eb := cb.resolve_left (fun g => hsb (by rw [g]; decide))
    have t : ∀ l : SP, takeM (-1) 0 l = l := fun l => by rw [takeM, if_pos (by decide)]
    rw [ea.2.2, eb.2.2, t, t]
    by_cases h2 : pmS ((parL a0.size (ns a0)).map toSp) ((parL a1.size (ns a1)).map toSp) = 2
    · exact .inl h2
    · exact .inr (match_says a0 a1 h2)
end Go.Proofs.Ytgmjaggkiifdjaa.Given
