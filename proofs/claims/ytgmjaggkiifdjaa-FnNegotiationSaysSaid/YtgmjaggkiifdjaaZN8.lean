/- Texts of this claim, one behind the other (merged by wip/prune.py of this repo, without what the proof does not use): GIndexByte, GRanges, LSpecWords, LSpecPar, LMedia, LSpecMedia. -/
import Derived.Test.YtgmjaggkiifdjaaZN1
import Derived.Test.YtgmjaggkiifdjaaZN2
import Derived.Test.YtgmjaggkiifdjaaZN3
import Derived.Test.YtgmjaggkiifdjaaZN4
import Derived.Test.YtgmjaggkiifdjaaZN5
import Derived.Test.YtgmjaggkiifdjaaZN6
import Derived.Test.YtgmjaggkiifdjaaZN7
import Derived.Below
import Derived.BigQuiet
import Derived.Deep.LoopGhost
import Derived.Deep.QuietTactic
import Derived.KernelRfl
import Derived.Laws.BytesArg
import Derived.Laws.OwnMore
import Derived.Laws.RangeAny
import Derived.Laws.RangeString
import Derived.Laws.Slices
import Derived.Lib.Bytealg
import Derived.Lib.ConvBytes
import Derived.Lib.Hide
import Derived.Lib.TrimU
import Derived.Outline
import Derived.OwnWalk
import Derived.RowKit3
import Derived.Tactics
import Derived.Test.YtgmjaggkiifdjaaProg
import Derived.WalkKit
import Derived.WalkLawsBesides
import Derived.WalkMore
import Derived.WalkSpells
import Derived.WideLaws
set_option linter.unusedVariables false
set_option linter.unusedSimpArgs false
namespace Go.Proofs.Ytgmjaggkiifdjaa.Given
open Go.RowKit Go.Proofs.YtgmjaggkiifdjaaW.PrintWords Go.Proofs.YtgmjaggkiifdjaaW.PrintLast Go.Proofs.YtgmjaggkiifdjaaW.PrintMore Go.Proofs.Ytgmjaggkiifdjaa.Base Go.Proofs.Ytgmjaggkiifdjaa.Gv
def idx : List Int → Int → Int
  | [], _ => -1
  | x :: l, c => if x = c then 0 else if idx l c = -1 then -1 else idx l c + 1
theorem idx_eq (l : List UInt8) (c : Int) (h0 : 0 ≤ c) (h1 : c ≤ 255) : Lib.indexByte l c.toNat.toUInt8 = idx (l.map fun b => (b.toNat : Int)) c := by
  induction l with
  | nil => rfl
  | cons b l ih =>
    have hb : (b == c.toNat.toUInt8) = decide ((b.toNat : Int) = c) := by
      rw [Bool.eq_iff_iff, beq_iff_eq, decide_eq_true_eq, ← UInt8.toNat_inj]
      have : c.toNat.toUInt8.toNat = c.toNat := by
        rw [Nat.toUInt8_eq, UInt8.toNat_ofNat']; omega
      rw [this]; omega
    simp only [Lib.indexByte, idx, List.map_cons, hb, ih, decide_eq_true_eq, beq_iff_eq]
def strings_IndexByte.f (a0 : ByteArray) (a1 : Int) : Option Int := some (Lib.indexByte a0.data.toList a1.toNat.toUInt8)
theorem strings_IndexByte.is (a0 : ByteArray) (a1 : Int) (h0 : 0 ≤ a1) (h1 : a1 ≤ 255) : strings_IndexByte.f a0 a1 = some (idx (ns a0) a1) := by
  unfold strings_IndexByte.f
  rw [idx_eq _ _ h0 h1]; rfl
set_option maxHeartbeats 1000000 in
set_option maxRecDepth 100000 in
theorem strings_IndexByte.calls (a0 : ByteArray) (a1 : Int) (r : Int) (w : World) (h : strings_IndexByte.f a0 a1 = some r) :
    Calls Try.prog 48 #[.string a0, .int .u8 a1] w fun e w' => e = .returned (.int .i64 r) ∧ Drawn0 w w' := by
  obtain rfl : Lib.indexByte a0.data.toList a1.toNat.toUInt8 = r := Option.some.inj h
  clear h
  have inner : Calls Try.prog 55 #[.string a0, .int .u8 a1] w fun e w' => e = .returned (.int .i64 (Lib.indexByte a0.data.toList a1.toNat.toUInt8)) ∧ w' = w := by
    go_enter Try.func55, Try.ntmps55
    go_wp2
    rw [run_callFunc_extern Try.func57 (by kernel_rfl) (by kernel_rfl) (by kernel_rfl) (e := Extern.BytealgIndexByte.indexByte) (by kernel_rfl), Lib.run_indexByteString]
    simp only [Result.andThen]
    rw [Oper.upon_value]
    go_wp2
    go_ret
    exact ⟨rfl, rfl⟩
  go_enter Try.func48, Try.ntmps48
  go_wp2_with (go_at_call 55; refine inner.mono ?_; rintro e w' ⟨rfl, rfl⟩)
  go_ret
  exact ⟨rfl, Drawn0.refl _⟩
open Go.Proofs.Ytgmjaggkiifdjaa.QA
def OutRow (w : World) (o : Nat) (outs : List ByteArray) : Prop :=
  o < w.heap.size ∧ ∃ v, w.heap[o]? = some (.cells #[v] 22 (0, 0)) ∧ w.ownsRow (o + 1) 9 1 v outs.length (encs Value.string outs)
theorem OutRow.drewN {w : World} {o : Nat} {outs : List ByteArray} (h : OutRow w o outs) (k : Nat) : OutRow (w.drewN k) o outs := h
set_option maxHeartbeats 2000000 in
set_option maxRecDepth 100000 in
theorem push_calls (w : World) (o : Nat) (outs : List ByteArray) (s : ByteArray) (h : OutRow w o outs) (hlen : (outs.length + 1) * 16 ≤ 140737488355328) :
    Calls Try.prog 40 #[.string s, .pointer (some ⟨o, 0, none⟩)] w fun e w' => e = .returned (.tuple #[]) ∧ OutRow w' o (outs ++ [s]) ∧ Below o w w' := by
  obtain ⟨h1, v, hh, ho⟩ := h
  have hinfo : (Try.prog.info? 9).map (fun i => (i.zero, i.size, i.bytes)) = some (some (.string ByteArray.empty), 1, 16) := by kernel_rfl
  obtain ⟨i0, hi, hz0, hz1, hz2⟩ := info_parts hinfo
  have c0 : w.cell? ⟨o, 0, none⟩ = some v := by rw [cell_of_row w o 0 _ _ (0, 0) hh]; rfl
  have HO := Lib.hid ho
  have HH := Lib.hid hh
  clear ho hh
  go_enter Try.func40, Try.ntmps40
  go_wp2_with (at_builtin; refine wpList_append_own _ rfl _ _ 22 rfl (o + 1) 9 i0 (.string ByteArray.empty) 1 16 Try.underlying22 hi hz0 hz1 hz2 rfl (by decide) _ _ _ rfl (HO.out.alloc _) ⟨w.heap.size, 0, none⟩ 1 1 [.string s] rfl rfl ?c1 ?c2 ?c3 ?c4 ?c5 ?_)
  case c1 =>
    intro j u hj
    match j, hj with
    | 0, hj => simp at hj; subst hj; simp [Addr.add]
  case c2 => intro u hu; simp at hu; subst hu; rfl
  case c3 => unfold maxLen; omega
  case c4 => exact hlen
  case c5 => simp; omega
  intro v' w2 hown' hgrow _
  have hvb : ∀ k, k ≤ o → some k ≠ v.ownBlock := fun k hk e => by have := own_base HO.out k e.symm; omega
  have hold : ∀ k, k ≤ o → w2.heap[k]? = w.heap[k]? := fun k hk => by
    rw [hgrow.block k (by simp; omega) (hvb k hk)]
    exact Below.heap_alloc _ _ _ (by omega)
  have hb2 : w2.heap[o]? = some (.cells #[v] 22 (0, 0)) := by rw [hold o (Nat.le_refl _)]; exact HH.out
  have d0 : w2.cell? ⟨o, 0, none⟩ = some v := by rw [cell_of_row w2 o 0 _ _ (0, 0) hb2]; rfl
  have f0 : w2.frozen? ⟨o, 0, none⟩ = false := frozen_of_row _ _ 0 _ _ hb2
  obtain ⟨g, cap, rfl⟩ : ∃ g cap, v' = .slice (some ⟨g, 0, none⟩) (outs.length + 1) cap := by
    rcases hown'.2 with ⟨_, h0⟩ | ⟨g, cap, cur, hv, _⟩
    · omega
    · exact ⟨g, cap, hv⟩
  have hbw2 : Below o w w2 := by
    refine ⟨hgrow.os, hgrow.tape, hgrow.output, ?_, fun k hk => hold k (by omega)⟩
    have := hgrow.size
    simp at this
    omega
  have HOW := Lib.hid hown'
  have HB2 := Lib.hid hb2
  have HW2 := Lib.hid hbw2
  clear hown' hb2 hbw2 hgrow hold hvb hi hz0 hz1 hz2 hinfo
  go_wp2
  go_end0
  refine ⟨rfl, ⟨by simp; have := HW2.out.size; omega, .slice (some ⟨g, 0, none⟩) (outs.length + 1) cap, ?_, ?_⟩, HW2.out.setCell (p := ⟨o, 0, none⟩) (Nat.le_refl _) _⟩
  · have := heap_setCell_same w2 o 0 _ 22 (.slice (some ⟨g, 0, none⟩) (outs.length + 1) cap) HB2.out
    simpa using this
  · have hm := own_move (w1 := w2.setCell ⟨o, 0, none⟩ (.slice (some ⟨g, 0, none⟩) (outs.length + 1) cap)) HOW.out (fun k hk => Below.heap_setCell _ _ _ _ (by have := own_base HOW.out k hk; show k ≠ o; omega))
    rw [encs_append, List.length_append]
    exact hm
theorem idx_rng (l : List Int) (c : Int) : -1 ≤ idx l c ∧ idx l c < l.length := by
  induction l with
  | nil => simp [idx]
  | cons x l ih =>
    unfold idx
    rw [List.length_cons]
    split
    · omega
    · split <;> omega
def scanQ : Nat → Bool → List Int → Nat
  | _, _, [] => 0
  | q, esc, c :: r =>
    if c = 44 then (if q % 2 = 0 then 0 else 1 + scanQ q esc r)
    else if c = 34 then 1 + scanQ (if esc = true then q else q + 1) esc r
    else if c = 92 then 1 + scanQ q (if q % 2 = 1 then !esc else esc) r
    else 1 + scanQ q esc r
theorem scanQ_le (xs : List Int) : ∀ q esc, scanQ q esc xs ≤ xs.length := by
  induction xs with
  | nil => intro q esc; simp [scanQ]
  | cons c r ih =>
    intro q esc
    simp only [scanQ, List.length_cons]
    have h1 := ih q esc
    have h2 := ih (if esc = true then q else q + 1) esc
    have h3 := ih q (if q % 2 = 1 then !esc else esc)
    split
    · split <;> omega
    · split
      · omega
      · split <;> omega
def cutAt (dq : Bool) (h : List Int) : Nat := if dq = true then scanQ 0 false h else if idx h 44 = -1 then h.length else (idx h 44).toNat
def rangesF (dq : Bool) : Nat → List Int → List (List Int)
  | 0, _ => []
  | f + 1, h => if h.length = 0 then [] else (ltrim h).take (cutAt dq (ltrim h)) :: (if (ltrim h).length ≤ cutAt dq (ltrim h) then [] else rangesF dq f ((ltrim h).drop (cutAt dq (ltrim h) + 1)))
theorem ltrim_le (xs : List Int) : (ltrim xs).length ≤ xs.length := by
  unfold ltrim
  induction xs with
  | nil => simp
  | cons x xs ih =>
    rw [List.dropWhile_cons]
    split
    · simp only [List.length_cons]; omega
    · exact Nat.le_refl _
def rangesOf (xs : List Int) : List ByteArray := (rangesF (decide (idx xs 34 ≠ -1)) xs.length xs).map strOfNums
theorem ltrim_mem {xs : List Int} {x : Int} (h : x ∈ ltrim xs) : x ∈ xs := by
  unfold ltrim at h
  exact List.dropWhile_sublist _ |>.mem h
theorem below_drewN_at {o n : Nat} {w w' : World} (h : Below o (w.drewN n) w') : Below o w w' := (pw_below_drewN (Below.refl o w) n).trans h
theorem tmod2 (q : Nat) : Int.tmod (q : Int) 2 = ((q % 2 : Nat) : Int) := by rw [Int.tmod_eq_emod_of_nonneg (by omega)]; omega
theorem range_step (dq : Bool) (f : Nat) (x : ByteArray) (outs RES : List ByteArray) (hx0 : 0 < x.size) (hx : x.size ≤ 4611686018427387904) (hE : outs ++ (rangesF dq (f + 1) (ns x)).map strOfNums = RES) :
    ∃ t : ByteArray, (∃ k, fiberutils_TrimLeft.f k x 32 = some t) ∧ t.size ≤ x.size ∧ (∀ n, n ≤ t.size → strOfNums ((ns t).take n) = t.extract 0 n) ∧
      outs ++ (t.extract 0 (cutAt dq (ns t)) :: (if (ns t).length ≤ cutAt dq (ns t) then [] else (rangesF dq f (ns (t.extract (cutAt dq (ns t) + 1) t.size))).map strOfNums)) = RES := by
  have hr : ∀ y ∈ ltrim (ns x), 0 ≤ y ∧ y ≤ 255 := fun y hy => ns_range x y (ltrim_mem hy)
  have hns : ns (strOfNums (ltrim (ns x))) = ltrim (ns x) := ns_strOfNums hr
  obtain ⟨t, ht⟩ : ∃ t, strOfNums (ltrim (ns x)) = t := ⟨_, rfl⟩
  have htr := trimL x hx
  rw [ht] at htr hns
  have hsz : t.size ≤ x.size := by
    have := ltrim_le (ns x)
    rw [← hns, ns_length, ns_length] at this
    exact this
  have htake : ∀ n, n ≤ t.size → strOfNums ((ns t).take n) = t.extract 0 n := fun n hn => ns_inj (by
    rw [ns_strOfNums (fun y hy => ns_range t y (List.mem_of_mem_take hy)), ns_extract, List.drop_zero, Nat.sub_zero])
  have hcut : cutAt dq (ns t) ≤ t.size := by
    unfold cutAt
    have h1 := scanQ_le (ns t) 0 false
    have h2 := idx_rng (ns t) 44
    rw [ns_length] at h1 h2
    split
    · exact h1
    · split
      · rw [ns_length]; exact Nat.le_refl _
      · omega
  have hdrop : ∀ n, ns (t.extract (n + 1) t.size) = (ns t).drop (n + 1) := fun n => by
    rw [ns_extract]
    refine List.take_of_length_le ?_
    rw [List.length_drop, ns_length]
    omega
  refine ⟨t, htr, hsz, htake, ?_⟩
  have hx1 : ¬ (ns x).length = 0 := by rw [ns_length]; omega
  rw [← hE, rangesF, if_neg hx1, ← hns, List.map_cons, htake _ hcut, hdrop]
  congr 2
  split <;> rfl
set_option maxHeartbeats 8000000 in
set_option maxRecDepth 100000 in
theorem forRanges_calls (a0 : ByteArray) (w : World) (o : Nat) (ho : OutRow w o []) (hbd : a0.size ≤ 1099511627776) :
    Calls Try.prog 39 #[.string a0, .func (.func 40) #[] #[.pointer (some ⟨o, 0, none⟩)]] w fun e w' => e = .returned (.tuple #[]) ∧ OutRow w' o (rangesOf (ns a0)) ∧ Below o w w' := by
  obtain ⟨dqi, hdqi⟩ : ∃ d, idx (ns a0) 34 = d := ⟨_, rfl⟩
  have hi34 := strings_IndexByte.is a0 34 (by decide) (by decide)
  rw [hdqi] at hi34
  have H34 := Lib.hid hi34
  obtain ⟨RES, hR⟩ : ∃ R, rangesOf (ns a0) = R := ⟨_, rfl⟩
  have HR : Hid ((rangesF (decide (dqi ≠ -1)) (ns a0).length (ns a0)).map strOfNums = RES) := Lib.hid (by rw [← hR, rangesOf, hdqi])
  rw [hR]
  have HO := Lib.hid ho
  clear hR hdqi hi34 ho
  by_cases hdq : dqi = -1
  · subst hdq
    have HR2 : Hid ((rangesF false (ns a0).length (ns a0)).map strOfNums = RES) := Lib.hid HR.out
    clear HR
    go_enter Try.func39, Try.ntmps39
    go_wp2_with (go_at_call 48; refine (strings_IndexByte.calls a0 34 (-1) _ H34.out).mono ?_; rintro e w' ⟨rfl, ⟨nd, rfl⟩⟩)
    go_loopw [0, 5, 6, 7] (fun hd _ _ _ wr => ∃ (x : ByteArray) (outs : List ByteArray) (f : Nat), hd = .string x ∧ Hid (x.size ≤ f) ∧ x.size + outs.length ≤ a0.size ∧ Hid (OutRow wr o outs) ∧ Hid (Below o w wr) ∧ Hid (outs ++ (rangesF false f (ns x)).map strOfNums = RES)) (fun hd _ _ _ _ => match hd with | .string x => x.size | _ => 0)
    case atStart => exact ⟨a0, [], a0.size, rfl, Lib.hid (Nat.le_refl _), by simp, Lib.hid (HO.out.drewN nd), Lib.hid (pw_below_drewN (Below.refl _ _) nd), Lib.hid (by rw [List.nil_append, ← ns_length]; exact HR2.out)⟩
    case round =>
      obtain ⟨x, outs, f, rfl, HF, hcount, HOR, HBL, HE⟩ := hrel
      by_cases hx0 : 0 < x.size
      · obtain ⟨f, rfl⟩ : ∃ g, f = g + 1 := ⟨f - 1, by have := HF.out; omega⟩
        obtain ⟨t, ht, hts, hps, hstep⟩ := range_step false f x outs RES hx0 (by omega) HE.out
        obtain ⟨ktr, htr⟩ := ht
        have HTR := Lib.hid htr
        have HST := Lib.hid hstep
        have HTS := Lib.hid hts
        obtain ⟨j, hj⟩ : ∃ j, idx (ns t) 44 = j := ⟨_, rfl⟩
        have hjr := idx_rng (ns t) 44
        rw [hj, ns_length] at hjr
        have hi44 := strings_IndexByte.is t 44 (by decide) (by decide)
        rw [hj] at hi44
        have H44 := Lib.hid hi44
        have HJ := Lib.hid hj
        have HPU := Lib.hid (fun (W : World) (h : OutRow W o outs) (s : ByteArray) => push_calls W o outs s h (by omega))
        clear htr hstep hi44 hj HE hps
        by_cases hjn : j = -1
        · subst hjn
          have hfin : Hid (RES = outs ++ [t.extract 0 t.size]) := Lib.hid (by
            have h1 := HST.out
            have hc : cutAt false (ns t) = t.size := by unfold cutAt; rw [if_neg (by decide), HJ.out, if_pos rfl, ns_length]
            rw [hc, ns_length, if_pos (Nat.le_refl _)] at h1
            rw [← h1])
          clear HST
          go_wp2_with (first
            | (go_at_call 49; refine (fiberutils_TrimLeft.calls ktr x 32 t _ HTR.out).mono ?_; rintro e w' ⟨rfl, ⟨n1, rfl⟩⟩)
            | (go_at_call 48; refine (strings_IndexByte.calls t 44 (-1) _ H44.out).mono ?_; rintro e w' ⟨rfl, ⟨n2, rfl⟩⟩)
            | (go_at_call 40; refine (HPU.out _ (HOR.out.drewN _) _).mono ?_; rintro e w' ⟨rfl, g1, g2⟩))
          refine bodyPost_ret (results_none rfl _ _ _) rfl ?_
          refine ⟨rfl, ?_, HBL.out.trans (below_drewN_at g2)⟩
          have e1 : t.extract 0 t.size = t := by simp
          rw [hfin.out, e1]
          exact g1
        · obtain ⟨j, rfl⟩ := Int.eq_ofNat_of_zero_le (show 0 ≤ j by omega)
          have hjt : j < t.size := by omega
          have hgo : Hid ((outs ++ [t.extract 0 j]) ++ (rangesF false f (ns (t.extract (j + 1) t.size))).map strOfNums = RES) := Lib.hid (by
            have h1 := HST.out
            have hc : cutAt false (ns t) = j := by unfold cutAt; rw [if_neg (by decide), HJ.out, if_neg (by omega), Int.toNat_natCast]
            rw [hc, ns_length, if_neg (by omega)] at h1
            rw [← h1]
            simp)
          have hxs : Hid ((t.extract (j + 1) t.size).size ≤ f ∧ (t.extract (j + 1) t.size).size + (outs ++ [t.extract 0 j]).length ≤ a0.size ∧ (t.extract (j + 1) t.size).size < x.size) := Lib.hid (by
            have := HF.out
            have h2 := HTS.out
            rw [ByteArray.size_extract, List.length_append, List.length_singleton]
            omega)
          clear HST hjn
          go_wp2_with (first
            | (go_at_call 49; refine (fiberutils_TrimLeft.calls ktr x 32 t _ HTR.out).mono ?_; rintro e w' ⟨rfl, ⟨n1, rfl⟩⟩)
            | (go_at_call 48; refine (strings_IndexByte.calls t 44 (j : Int) _ H44.out).mono ?_; rintro e w' ⟨rfl, ⟨n2, rfl⟩⟩)
            | (go_at_call 40; refine (HPU.out _ (HOR.out.drewN _) _).mono ?_; rintro e w' ⟨rfl, g1, g2⟩))
          go_roundw
          case rel => exact ⟨t.extract (j + 1) t.size, outs ++ [t.extract 0 j], f, by go_num, Lib.hid hxs.out.1, hxs.out.2.1, Lib.hid g1, Lib.hid (HBL.out.trans (below_drewN_at g2)), hgo⟩
          case measure => exact hxs.out.2.2
      · have hx1 : x.size = 0 := by omega
        have hfin : Hid (RES = outs) := Lib.hid (by
          have h1 := HE.out
          have e1 : rangesF false f (ns x) = [] := by
            cases f with
            | zero => rfl
            | succ f => rw [rangesF, if_pos (by rw [ns_length]; exact hx1)]
          rw [e1] at h1
          rw [← h1]
          simp)
        go_wp2
        go_end0
        exact ⟨rfl, by rw [hfin.out]; exact HOR.out, HBL.out⟩
  · have HR2 : Hid ((rangesF true (ns a0).length (ns a0)).map strOfNums = RES) := Lib.hid (by have := HR.out; rw [decide_eq_true hdq] at this; exact this)
    have hdqb : (dqi != -1) = true := bne_iff_ne.2 hdq
    clear HR hdq
    go_enter Try.func39, Try.ntmps39
    go_wp2_with (go_at_call 48; refine (strings_IndexByte.calls a0 34 dqi _ H34.out).mono ?_; rintro e w' ⟨rfl, ⟨nd, rfl⟩⟩)
    clear hdqb
    go_loopw [0, 5, 6, 7] (fun hd _ _ _ wr => ∃ (x : ByteArray) (outs : List ByteArray) (f : Nat), hd = .string x ∧ Hid (x.size ≤ f) ∧ x.size + outs.length ≤ a0.size ∧ Hid (OutRow wr o outs) ∧ Hid (Below o w wr) ∧ Hid (outs ++ (rangesF true f (ns x)).map strOfNums = RES)) (fun hd _ _ _ _ => match hd with | .string x => x.size | _ => 0)
    case atStart => exact ⟨a0, [], a0.size, rfl, Lib.hid (Nat.le_refl _), by simp, Lib.hid (HO.out.drewN nd), Lib.hid (pw_below_drewN (Below.refl _ _) nd), Lib.hid (by rw [List.nil_append, ← ns_length]; exact HR2.out)⟩
    case round =>
      obtain ⟨x, outs, f, rfl, HF, hcount, HOR, HBL, HE⟩ := hrel
      by_cases hx0 : 0 < x.size
      · obtain ⟨f, rfl⟩ : ∃ g, f = g + 1 := ⟨f - 1, by have := HF.out; omega⟩
        obtain ⟨t, ht, hts, hps, hstep⟩ := range_step true f x outs RES hx0 (by omega) HE.out
        obtain ⟨ktr, htr⟩ := ht
        have HTR := Lib.hid htr
        have HST := Lib.hid hstep
        have HTS := Lib.hid hts
        have htsz : t.size ≤ 1099511627776 := by omega
        have HPU := Lib.hid (fun (W : World) (h : OutRow W o outs) (s : ByteArray) => push_calls W o outs s h (by omega))
        obtain ⟨N, hN⟩ : ∃ N, scanQ 0 false (ns t) = N := ⟨_, rfl⟩
        have hNle : N ≤ t.size := by rw [← hN, ← ns_length]; exact scanQ_le _ _ _
        have HN := Lib.hid hN
        clear htr hstep hN HE hps hts
        go_wp2_with (go_at_call 49; refine (fiberutils_TrimLeft.calls ktr x 32 t _ HTR.out).mono ?_; rintro e w' ⟨rfl, ⟨n1, rfl⟩⟩)
        apply wp_scope_straight
        apply wp_seq_k
        intro KL hKL
        apply wp_label
        simp only [Exit.then]
        apply hKL
        apply wp_block
        go_loopw [5, 6, 7] (fun nn qq ee wi => ∃ (k q : Nat) (esc : Bool), wi = wr.drewN n1 ∧ nn = .int .i64 k ∧ qq = .int .i64 q ∧ ee = .bool esc ∧ k ≤ t.size ∧ q ≤ k ∧ Hid (k + scanQ q esc ((ns t).drop k) = N)) (fun nn _ _ _ => t.size - (intOf nn).toNat)
        case atStart => exact ⟨0, 0, false, rfl, rfl, rfl, rfl, by omega, by omega, Lib.hid (by rw [List.drop_zero, Nat.zero_add]; exact HN.out)⟩
        case round =>
          obtain ⟨k, q, esc, rfl, rfl, rfl, rfl, hk, hq, HS⟩ := hrel
          by_cases hlt : k < t.size
          · have hl : k < (ns t).length := by rw [ns_length]; exact hlt
            have hdr : (ns t).drop k = (ns t).getD k 0 :: (ns t).drop (k + 1) := by
              rw [List.drop_eq_getElem_cons hl, List.getD_eq_getElem?_getD, List.getElem?_eq_getElem hl]; rfl
            obtain ⟨c, hc⟩ : ∃ c, (ns t).getD k 0 = c := ⟨_, rfl⟩
            have hbt := Lib.hid ((bt_ns t k).trans hc)
            rw [hc] at hdr
            have HD : Hid (k + scanQ q esc (c :: (ns t).drop (k + 1)) = N) := Lib.hid (by rw [← hdr]; exact HS.out)
            have hqm := tmod2 q
            clear hc hdr HS hl
            by_cases h44 : c = 44
            · subst h44
              by_cases hev : q % 2 = 0
              · have hkN : k = N := by have := HD.out; unfold scanQ at this; rw [if_pos rfl, if_pos hev] at this; omega
                have hq2 : Int.tmod (q : Int) 2 = 0 := by rw [hqm, hev]; rfl
                have HKN := Lib.hid hkN
                have hgo : Hid ((outs ++ [t.extract 0 k]) ++ (rangesF true f (ns (t.extract (k + 1) t.size))).map strOfNums = RES) := Lib.hid (by
                  have h1 := HST.out
                  have hcu : cutAt true (ns t) = k := by unfold cutAt; rw [if_pos rfl, HN.out, hkN]
                  rw [hcu, ns_length, if_neg (by omega)] at h1
                  rw [← h1]
                  simp)
                have hxs : Hid ((t.extract (k + 1) t.size).size ≤ f ∧ (t.extract (k + 1) t.size).size + (outs ++ [t.extract 0 k]).length ≤ a0.size ∧ (t.extract (k + 1) t.size).size < x.size) := Lib.hid (by
                  have := HF.out
                  have h2 := HTS.out
                  rw [ByteArray.size_extract, List.length_append, List.length_singleton]
                  omega)
                clear hev hqm hkN HST
                go_wp2_with ((with_reducible refine gate_dst (N := 23) rfl ?_); refine wpList_index_tab rfl 9 (.tmp 21) (.tmp 22) rfl t (k : Int) .i64 rfl rfl Try.underlying9 (by omega) (by omega) 44 hbt.out ?_)
                simp only [Exit.noGoto_normal, Exit.then]
                go_at_K
                go_wp2_with (go_at_call 40; refine (HPU.out _ (HOR.out.drewN _) _).mono ?_; rintro e w' ⟨rfl, g1, g2⟩)
                go_roundw
                case rel => exact ⟨t.extract (k + 1) t.size, outs ++ [t.extract 0 k], f, by go_num, Lib.hid hxs.out.1, hxs.out.2.1, Lib.hid g1, Lib.hid (HBL.out.trans (below_drewN_at g2)), hgo⟩
                case measure => exact hxs.out.2.2
              · have hq2 : Int.tmod (q : Int) 2 = 1 := by rw [hqm]; omega
                have HS1 : Hid (k + 1 + scanQ q esc ((ns t).drop (k + 1)) = N) := Lib.hid (by have := HD.out; unfold scanQ at this; rw [if_pos rfl, if_neg hev] at this; omega)
                clear hev hqm HD
                go_wp2_with ((with_reducible refine gate_dst (N := 23) rfl ?_); refine wpList_index_tab rfl 9 (.tmp 21) (.tmp 22) rfl t (k : Int) .i64 rfl rfl Try.underlying9 (by omega) (by omega) 44 hbt.out ?_)
                go_roundw
                case rel => exact ⟨k + 1, q, esc, by first | rfl | trivial, by go_num, by go_num, by first | rfl | trivial, by omega, by omega, HS1⟩
                case measure => simp [intOf]; omega
            · by_cases h34 : c = 34
              · subst h34
                cases esc with
                | true =>
                  have HS1 : Hid (k + 1 + scanQ q true ((ns t).drop (k + 1)) = N) := Lib.hid (by have := HD.out; unfold scanQ at this; rw [if_neg (by decide), if_pos rfl, if_pos rfl] at this; omega)
                  clear hqm HD h44
                  go_wp2_with ((with_reducible refine gate_dst (N := 23) rfl ?_); refine wpList_index_tab rfl 9 (.tmp 21) (.tmp 22) rfl t (k : Int) .i64 rfl rfl Try.underlying9 (by omega) (by omega) 34 hbt.out ?_)
                  go_roundw
                  case rel => exact ⟨k + 1, q, true, by first | rfl | trivial, by go_num, by go_num, by first | rfl | trivial, by omega, by omega, HS1⟩
                  case measure => simp [intOf]; omega
                | false =>
                  have HS1 : Hid (k + 1 + scanQ (q + 1) false ((ns t).drop (k + 1)) = N) := Lib.hid (by have := HD.out; unfold scanQ at this; rw [if_neg (by decide), if_pos rfl, if_neg (by decide)] at this; omega)
                  clear hqm HD h44
                  go_wp2_with ((with_reducible refine gate_dst (N := 23) rfl ?_); refine wpList_index_tab rfl 9 (.tmp 21) (.tmp 22) rfl t (k : Int) .i64 rfl rfl Try.underlying9 (by omega) (by omega) 34 hbt.out ?_)
                  go_roundw
                  case rel => exact ⟨k + 1, q + 1, false, by first | rfl | trivial, by go_num, by go_num, by first | rfl | trivial, by omega, by omega, HS1⟩
                  case measure => simp [intOf]; omega
              · by_cases h92 : c = 92
                · subst h92
                  by_cases hod : q % 2 = 1
                  · have hq2 : Int.tmod (q : Int) 2 = 1 := by rw [hqm, hod]; rfl
                    have HS1 : Hid (k + 1 + scanQ q (!esc) ((ns t).drop (k + 1)) = N) := Lib.hid (by have := HD.out; unfold scanQ at this; rw [if_neg (by decide), if_neg (by decide), if_pos rfl, if_pos hod] at this; omega)
                    clear hqm HD h44 h34 hod
                    go_wp2_with ((with_reducible refine gate_dst (N := 23) rfl ?_); refine wpList_index_tab rfl 9 (.tmp 21) (.tmp 22) rfl t (k : Int) .i64 rfl rfl Try.underlying9 (by omega) (by omega) 92 hbt.out ?_)
                    go_roundw
                    case rel => exact ⟨k + 1, q, !esc, by first | rfl | trivial, by go_num, by go_num, by first | rfl | trivial, by omega, by omega, HS1⟩
                    case measure => simp [intOf]; omega
                  · have hq2 : Int.tmod (q : Int) 2 = 0 := by rw [hqm]; omega
                    have HS1 : Hid (k + 1 + scanQ q esc ((ns t).drop (k + 1)) = N) := Lib.hid (by have := HD.out; unfold scanQ at this; rw [if_neg (by decide), if_neg (by decide), if_pos rfl, if_neg hod] at this; omega)
                    clear hqm HD h44 h34 hod
                    go_wp2_with ((with_reducible refine gate_dst (N := 23) rfl ?_); refine wpList_index_tab rfl 9 (.tmp 21) (.tmp 22) rfl t (k : Int) .i64 rfl rfl Try.underlying9 (by omega) (by omega) 92 hbt.out ?_)
                    go_roundw
                    case rel => exact ⟨k + 1, q, esc, by first | rfl | trivial, by go_num, by go_num, by first | rfl | trivial, by omega, by omega, HS1⟩
                    case measure => simp [intOf]; omega
                · have HS1 : Hid (k + 1 + scanQ q esc ((ns t).drop (k + 1)) = N) := Lib.hid (by have := HD.out; unfold scanQ at this; rw [if_neg h44, if_neg h34, if_neg h92] at this; omega)
                  have e44 : (c == 44) = false := beq_eq_false_iff_ne.2 h44
                  have e34 : (c == 34) = false := beq_eq_false_iff_ne.2 h34
                  have e92 : (c == 92) = false := beq_eq_false_iff_ne.2 h92
                  clear hqm HD h44 h34 h92
                  go_wp2_with ((with_reducible refine gate_dst (N := 23) rfl ?_); refine wpList_index_tab rfl 9 (.tmp 21) (.tmp 22) rfl t (k : Int) .i64 rfl rfl Try.underlying9 (by omega) (by omega) c hbt.out ?_)
                  go_roundw
                  case rel => exact ⟨k + 1, q, esc, by first | rfl | trivial, by go_num, by go_num, by first | rfl | trivial, by omega, by omega, HS1⟩
                  case measure => simp [intOf]; omega
          · obtain rfl : k = t.size := by omega
            have hfin : Hid (RES = outs ++ [t]) := Lib.hid (by
              have h1 := HST.out
              have hkN := HS.out
              rw [List.drop_eq_nil_of_le (by rw [ns_length]; exact Nat.le_refl _), scanQ] at hkN
              have hcu : cutAt true (ns t) = t.size := by unfold cutAt; rw [if_pos rfl, HN.out]; omega
              rw [hcu, ns_length, if_pos (Nat.le_refl _)] at h1
              rw [← h1]
              simp)
            clear HST HS
            go_wp2
            simp only [Exit.noGoto_normal, Exit.then]
            go_at_K
            go_wp2_with (go_at_call 40; refine (HPU.out _ (HOR.out.drewN _) _).mono ?_; rintro e w' ⟨rfl, g1, g2⟩)
            refine bodyPost_ret (results_none rfl _ _ _) rfl ?_
            refine ⟨rfl, ?_, HBL.out.trans (below_drewN_at g2)⟩
            rw [hfin.out]
            exact g1
      · have hx1 : x.size = 0 := by omega
        have hfin : Hid (RES = outs) := Lib.hid (by
          have h1 := HE.out
          have e1 : rangesF true f (ns x) = [] := by
            cases f with
            | zero => rfl
            | succ f => rw [rangesF, if_pos (by rw [ns_length]; exact hx1)]
          rw [e1] at h1
          rw [← h1]
          simp)
        go_wp2
        go_end0
        exact ⟨rfl, by rw [hfin.out]; exact HOR.out, HBL.out⟩
set_option maxHeartbeats 2000000 in
theorem zzRanges_calls (a0 : ByteArray) (w : World) (hbd : a0.size ≤ 1099511627776) :
    Calls Try.prog 22 #[.string a0] w fun e w' => ∃ v, e = .returned v ∧ Kd.R Kd.string 9 w' w.heap.size (fun _ => True) v (rangesOf (ns a0)) ∧ Below w.heap.size w w' := by
  have hmf : ∀ (fn : Fn) (first cap : Array Value) (w : World), (Instr.makeFunc fn first cap).run Try.prog w = .ok (.func fn first cap) w := fun _ _ _ _ => rfl
  have hout : OutRow (w.alloc (.cells #[.slice none 0 0] 22)) w.heap.size [] := ⟨by simp, .slice none 0 0, heap_alloc_new w _, own_nil _ _ _ _⟩
  have hc := Lib.hid (forRanges_calls a0 _ _ hout hbd)
  have hb0 : Hid (Below w.heap.size w (w.alloc (.cells #[.slice none 0 0] 22))) := Lib.hid ((Below.refl _ _).alloc (Nat.le_refl _) _)
  clear hout
  go_enter Try.func22, Try.ntmps22
  go_wp2_with (
    go_at_call 39
    refine hc.out.mono ?_
    rintro e w' ⟨rfl, hr, hb⟩
    obtain ⟨hlt, v, hh, ho⟩ := hr
    have c0 : w'.cell? ⟨w.heap.size, 0, none⟩ = some v := by rw [cell_of_row w' _ 0 _ _ (0, 0) hh]; rfl
    have HR := Lib.hid (Kd.R_of_own (h1 := fun _ => rfl) (ok := fun _ => True) (own_weaken ho (Nat.le_succ _)) (fun _ _ => trivial))
    have HB := Lib.hid hb
    clear hh ho hb hlt)
  go_ret
  exact ⟨_, rfl, HR.out, hb0.out.trans HB.out⟩
def impl_MediaRanges.f (a0 : ByteArray) : Option (List ByteArray) := if a0.size ≤ 1099511627776 then some (rangesOf (ns a0)) else none
theorem impl_MediaRanges.calls (a0 : ByteArray) (r1 : List ByteArray) (w : World) (h : impl_MediaRanges.f a0 = some r1) :
    Calls Try.prog 5 #[.string a0] w fun e w' => ∃ v0_ : Value, e = .returned v0_ ∧ Kd.R Kd.string 9 w' w.heap.size (fun _ => True) v0_ r1 ∧ Below w.heap.size w w' := by
  unfold impl_MediaRanges.f at h
  by_cases hbd : a0.size ≤ 1099511627776
  · rw [if_pos hbd] at h
    obtain rfl := Option.some.inj h
    go_enter Try.func5, Try.ntmps5
    go_wp2_with (go_at_call 22; refine (zzRanges_calls a0 _ hbd).mono ?_; rintro e w' ⟨v, rfl, hr, hb⟩)
    go_ret
    exact ⟨_, rfl, hr, hb⟩
  · rw [if_neg hbd] at h
    cases h
theorem tl_nil (s : ByteArray) : s.toList = ([] : List UInt8) ↔ s.size = 0 := by
  rw [Lib.toList_data, Lib.size_eq]
  exact List.length_eq_zero_iff.symm
theorem place_from (s : ByteArray) (c : Int) (hs : s.size ≤ 140737488351232) (d : Nat) : ∀ i : Nat, i + d = s.size → Ev (fun k => spec_place.l0 k s c (s.size : Int) (i : Int)) (if idx ((ns s).drop i) c = -1 then -1 else (i : Int) + idx ((ns s).drop i) c) := by
  induction d with
  | zero =>
    intro i hi
    refine Ev.step (f := fun _ => some (-1)) (fun k => ?_) (Ev.val ?_)
    · simp only [spec_place.l0]; rw [if_neg (by omega)]
    · rw [List.drop_eq_nil_of_le (by rw [ns_length]; omega)]; rfl
  | succ d ih =>
    intro i hi
    have hlt : i < (ns s).length := by rw [ns_length]; omega
    have hb : bt s (i : Int) = (ns s)[i] := by rw [bt_ns, List.getD_eq_getElem?_getD, List.getElem?_eq_getElem hlt]; rfl
    refine Ev.step (f := fun k => if (ns s)[i] = c then some (i : Int) else spec_place.l0 k s c (s.size : Int) ((i + 1 : Nat) : Int)) (fun k => ?_) ?_
    · simp only [spec_place.l0]
      rw [if_pos (by omega), if_pos (by omega), if_pos (by omega), hb, wrap_add (by omega) (by omega)]
      rfl
    · rw [List.drop_eq_getElem_cons hlt, idx]
      have hr := idx_rng ((ns s).drop (i + 1)) c
      refine Ev.ite (fun h => Ev.val ?_) (fun h => ?_)
      · rw [if_pos h, if_neg (by decide)]; omega
      · rw [if_neg h]
        have := ih (i + 1) (by omega)
        by_cases g : idx ((ns s).drop (i + 1)) c = -1
        · rw [if_pos g] at this
          rw [if_pos g, if_pos rfl]
          exact this
        · rw [if_neg g] at this
          rw [if_neg g, if_neg (by omega), show (i : Int) + (idx ((ns s).drop (i + 1)) c + 1) = ((i + 1 : Nat) : Int) + idx ((ns s).drop (i + 1)) c by omega]
          exact this
theorem place_ends (s : ByteArray) (c : Int) (hs : s.size ≤ 140737488351232) : Ev (fun k => spec_place.f k s c) (idx (ns s) c) := by
  have h := place_from s c hs s.size 0 (by omega)
  rw [List.drop_zero] at h
  split at h
  · rename_i g; rw [g]; exact h
  · rw [show ((0 : Nat) : Int) + idx (ns s) c = idx (ns s) c by omega] at h; exact h
theorem idx_none {l : List Int} {c : Int} : idx l c = -1 ↔ c ∉ l := by
  induction l with
  | nil => simp [idx]
  | cons x l ih =>
    have hr := idx_rng l c
    rw [idx, List.mem_cons]
    by_cases h : x = c
    · rw [if_pos h]; simp [h]
    · rw [if_neg h]
      by_cases g : idx l c = -1
      · rw [if_pos g]; simp [Ne.symm h, ih.1 g]
      · rw [if_neg g]
        refine ⟨fun e => by omega, fun e => absurd (ih.2 (fun m => e (.inr m))) g⟩
theorem head_ns {s : ByteArray} (h : s.size ≠ 0) : ∃ c r, ns s = c :: r ∧ bt s 0 = c ∧ ns (s.extract 1 s.size) = r := by
  cases e : ns s with
  | nil => have := ns_length s; rw [e] at this; simp at this; omega
  | cons c r => exact ⟨c, r, rfl, by rw [show (0 : Int) = ((0 : Nat) : Int) from rfl, bt_ns, e]; rfl, by rw [ns_from, e]; rfl⟩
theorem gap_ends : ∀ (n : Nat) (s : ByteArray), s.size ≤ n → 9 ∉ ns s → ∃ t, Ev (fun k => spec_gap.f k s) t ∧ ns t = ltrim (ns s)
  | 0, s, hn, h9 => ⟨s, by
      simp only [spec_gap.f]
      refine Ev.step (f := fun _ => some s) (fun k => ?_) (Ev.now _)
      rw [spec_gap.l0, if_pos ((tl_nil s).2 (by omega))], by
      have : ns s = [] := List.length_eq_zero_iff.1 (by rw [ns_length]; omega)
      rw [this]; rfl⟩
  | n + 1, s, hn, h9 => by
    by_cases h0 : s.size = 0
    · refine ⟨s, ?_, ?_⟩
      · simp only [spec_gap.f]
        refine Ev.step (f := fun _ => some s) (fun k => ?_) (Ev.now _)
        rw [spec_gap.l0, if_pos ((tl_nil s).2 h0)]
      · have : ns s = [] := List.length_eq_zero_iff.1 (by rw [ns_length]; omega)
        rw [this]; rfl
    · obtain ⟨c, r, e, hb, hx⟩ := head_ns h0
      have h9' : c ≠ 9 := fun g => h9 (by rw [e, g]; exact List.mem_cons_self ..)
      by_cases h32 : c = 32
      · obtain ⟨t, ht, hn2⟩ := gap_ends n (s.extract 1 s.size) (by rw [ByteArray.size_extract]; omega) (by rw [hx]; exact fun g => h9 (by rw [e]; exact List.mem_cons_of_mem _ g))
        refine ⟨t, ?_, ?_⟩
        · simp only [spec_gap.f] at ht ⊢
          refine Ev.step (fun k => ?_) ht
          rw [spec_gap.l0, if_neg (fun g => h0 ((tl_nil s).1 g)), if_pos (by omega), hb, if_pos h32, if_pos (by omega)]
        · rw [hn2, hx, e, h32]; unfold ltrim; rw [List.dropWhile_cons_of_pos (by simp)]
      · refine ⟨s, ?_, ?_⟩
        · simp only [spec_gap.f]
          refine Ev.step (f := fun _ => some s) (fun k => ?_) (Ev.now _)
          rw [spec_gap.l0, if_neg (fun g => h0 ((tl_nil s).1 g)), if_pos (by omega), hb, if_neg h32, if_neg h9']
        · rw [e]; unfold ltrim; rw [List.dropWhile_cons_of_neg (by simp [h32])]
theorem ahead_ends : ∀ (n : Nat) (s : ByteArray), s.size ≤ n → ∃ t, Ev (fun k => spec_ahead.f k s) t ∧ ns t = ltrim (ns s)
  | 0, s, hn => ⟨s, by
      simp only [spec_ahead.f]
      refine Ev.step (f := fun _ => some s) (fun k => ?_) (Ev.now _)
      rw [spec_ahead.l0, if_pos ((tl_nil s).2 (by omega))], by
      have : ns s = [] := List.length_eq_zero_iff.1 (by rw [ns_length]; omega)
      rw [this]; rfl⟩
  | n + 1, s, hn => by
    by_cases h0 : s.size = 0
    · refine ⟨s, ?_, ?_⟩
      · simp only [spec_ahead.f]
        refine Ev.step (f := fun _ => some s) (fun k => ?_) (Ev.now _)
        rw [spec_ahead.l0, if_pos ((tl_nil s).2 h0)]
      · have : ns s = [] := List.length_eq_zero_iff.1 (by rw [ns_length]; omega)
        rw [this]; rfl
    · obtain ⟨c, r, e, hb, hx⟩ := head_ns h0
      by_cases h32 : c = 32
      · obtain ⟨t, ht, hn2⟩ := ahead_ends n (s.extract 1 s.size) (by rw [ByteArray.size_extract]; omega)
        refine ⟨t, ?_, ?_⟩
        · simp only [spec_ahead.f] at ht ⊢
          refine Ev.step (fun k => ?_) ht
          rw [spec_ahead.l0, if_neg (fun g => h0 ((tl_nil s).1 g)), if_pos (by omega), hb, if_pos h32, if_pos (by omega)]
        · rw [hn2, hx, e, h32]; unfold ltrim; rw [List.dropWhile_cons_of_pos (by simp)]
      · refine ⟨s, ?_, ?_⟩
        · simp only [spec_ahead.f]
          refine Ev.step (f := fun _ => some s) (fun k => ?_) (Ev.now _)
          rw [spec_ahead.l0, if_neg (fun g => h0 ((tl_nil s).1 g)), if_pos (by omega), hb, if_neg h32]
        · rw [e]; unfold ltrim; rw [List.dropWhile_cons_of_neg (by simp [h32])]
theorem field_all : ∀ n : Fin 256, spec_FieldByte.f 30 ((n.val : Nat) : Int) = some (tokB ((n.val : Nat) : Int)) := by decide +kernel
theorem field_ends (c : Int) (h0 : 0 ≤ c) (h1 : c ≤ 255) : Ev (fun k => spec_FieldByte.f k c) (tokB c) := by
  obtain ⟨n, rfl⟩ := Int.eq_ofNat_of_zero_le h0
  exact Ev.of (spec_FieldByte.mono _) (field_all ⟨n, by omega⟩)
def foldB (c : Int) : Int := if c ≥ 65 ∧ c ≤ 90 then c + 32 else c
theorem fold_is (c : Int) (h0 : 0 ≤ c) (h1 : c ≤ 255) : spec_fold.f c = some (foldB c) := by
  unfold spec_fold.f foldB
  by_cases a : c ≥ 65
  · by_cases b : c ≤ 90
    · rw [if_pos a, if_pos b, if_pos ⟨a, b⟩]; congr 1; omega
    · rw [if_pos a, if_neg b, if_neg (fun g => b g.2)]
  · rw [if_neg a, if_neg (fun g => a g.1)]
theorem fold_up : ∀ m n : Fin 256, foldB ((m.val : Nat) : Int) = foldB ((n.val : Nat) : Int) ↔ Gv.up ((m.val : Nat) : Int) = Gv.up ((n.val : Nat) : Int) := by decide +kernel
theorem fold_up' (a b : Int) (ha : 0 ≤ a ∧ a ≤ 255) (hb : 0 ≤ b ∧ b ≤ 255) : foldB a = foldB b ↔ Gv.up a = Gv.up b := by
  obtain ⟨m, rfl⟩ := Int.eq_ofNat_of_zero_le ha.1
  obtain ⟨n, rfl⟩ := Int.eq_ofNat_of_zero_le hb.1
  exact fold_up ⟨m, by omega⟩ ⟨n, by omega⟩
theorem same_from (a b : ByteArray) (hab : a.size = b.size) (hs : a.size ≤ 140737488351232) (d : Nat) : ∀ i : Nat, i + d = a.size → Ev (fun k => spec_same.l0 k a b (a.size : Int) (i : Int)) (decide (((ns a).drop i).map Gv.up = ((ns b).drop i).map Gv.up)) := by
  induction d with
  | zero =>
    intro i hi
    refine Ev.step (f := fun _ => some true) (fun k => ?_) (Ev.val ?_)
    · simp only [spec_same.l0]; rw [if_neg (by omega)]
    · rw [List.drop_eq_nil_of_le (by rw [ns_length]; omega), List.drop_eq_nil_of_le (by rw [ns_length]; omega)]; rfl
  | succ d ih =>
    intro i hi
    have hlt : i < (ns a).length := by rw [ns_length]; omega
    have hlt' : i < (ns b).length := by rw [ns_length]; omega
    have ha : bt a (i : Int) = (ns a)[i] := by rw [bt_ns, List.getD_eq_getElem?_getD, List.getElem?_eq_getElem hlt]; rfl
    have hb : bt b (i : Int) = (ns b)[i] := by rw [bt_ns, List.getD_eq_getElem?_getD, List.getElem?_eq_getElem hlt']; rfl
    have ra := ns_range a _ (List.getElem_mem hlt)
    have rb := ns_range b _ (List.getElem_mem hlt')
    refine Ev.step (f := fun k => if foldB (ns a)[i] = foldB (ns b)[i] then spec_same.l0 k a b (a.size : Int) ((i + 1 : Nat) : Int) else some false) (fun k => ?_) ?_
    · simp only [spec_same.l0]
      rw [if_pos (by omega), if_pos (by omega), if_pos (by omega), ha, hb, fold_is _ ra.1 ra.2, Option.bind_some, if_pos (by omega), fold_is _ rb.1 rb.2, Option.bind_some, wrap_add (by omega) (by omega)]
      rfl
    · rw [List.drop_eq_getElem_cons hlt, List.drop_eq_getElem_cons hlt', List.map_cons, List.map_cons]
      have hf := fold_up' _ _ ra rb
      refine Ev.ite (fun h => ?_) (fun h => Ev.val ?_)
      · have e : decide ((Gv.up (ns a)[i] :: ((ns a).drop (i + 1)).map Gv.up) = (Gv.up (ns b)[i] :: ((ns b).drop (i + 1)).map Gv.up)) = decide (((ns a).drop (i + 1)).map Gv.up = ((ns b).drop (i + 1)).map Gv.up) := by
          rw [hf.1 h]; exact decide_eq_decide.2 ⟨fun g => (List.cons.inj g).2, fun g => by rw [g]⟩
        rw [e]
        exact ih (i + 1) (by omega)
      · exact (decide_eq_false (fun g => h (hf.2 (List.cons.inj g).1))).symm
theorem same_ends (a b : ByteArray) (hs : a.size ≤ 140737488351232) : Ev (fun k => spec_same.f k a b) (eqFold a b) := by
  unfold eqFold
  simp only [spec_same.f]
  refine Ev.ite (fun h => ?_) (fun h => Ev.val ?_)
  · have := same_from a b (by omega) hs a.size 0 (by omega)
    simpa using this
  · refine (decide_eq_false (fun g => h ?_)).symm
    have := congrArg List.length g
    rw [List.length_map, List.length_map, ns_length, ns_length] at this
    omega
theorem eqFold_symm (a b : ByteArray) : eqFold a b = eqFold b a := by unfold eqFold; exact decide_eq_decide.2 ⟨Eq.symm, Eq.symm⟩
abbrev Sp := S38
def toSp (p : ByteArray × ByteArray) : Sp := ⟨p.1, p.2⟩
def valP (xs : List Int) : Option (List Int × List Int) :=
  if xs.length = 0 then none
  else if xs.getD 0 0 = 34 then
    (if 1 + quoN false (xs.drop 1) < xs.length then some ((xs.drop 1).take (quoN false (xs.drop 1)), xs.drop (1 + quoN false (xs.drop 1) + 1)) else none)
  else if tokN xs = 0 then none else some (xs.take (tokN xs), xs.drop (tokN xs))
theorem oneU_val {u : List Int} {N : Nat} (hN : tokN u = N) (h0 : N ≠ 0) (h1 : N < u.length) (h2 : u.getD N 0 = 61) : oneU u = (valP (u.drop (N + 1))).map fun p => (u.take N, p.1, p.2) := by
  have hl : (u.drop (N + 1)).length = u.length - (N + 1) := List.length_drop ..
  by_cases h3 : u.length ≤ N + 1
  · rw [oneU_eq hN (.inl h3), valP, if_pos (by omega)]; rfl
  · have hg : (u.drop (N + 1)).getD 0 0 = u.getD (N + 1) 0 := by rw [getD_drop, Nat.add_zero]
    have hd : (u.drop (N + 1)).drop 1 = u.drop (N + 2) := by rw [List.drop_drop]
    unfold valP
    rw [if_neg (by omega), hg, hd]
    by_cases h4 : u.getD (N + 1) 0 = 34
    · obtain ⟨Q, hQ⟩ : ∃ Q, quoN false (u.drop (N + 2)) = Q := ⟨_, rfl⟩
      rw [oneU_q hN h0 (by omega) h2 h4 hQ, if_pos h4, hQ]
      by_cases h5 : N + 2 + Q < u.length
      · rw [if_pos h5, if_pos (by omega), List.drop_drop]
        simp only [Option.map_some]
        rw [show N + 2 + Q + 1 = N + 1 + (1 + Q + 1) by omega]
      · rw [if_neg h5, if_neg (by omega)]; rfl
    · obtain ⟨M, hM⟩ : ∃ M, tokN (u.drop (N + 1)) = M := ⟨_, rfl⟩
      rw [oneU_t hN h0 (by omega) h2 h4 hM, if_neg h4, hM]
      by_cases h5 : M = 0
      · rw [if_pos h5, if_pos h5]; rfl
      · rw [if_neg h5, if_neg h5, List.drop_drop]; rfl
theorem quo_all {l : List Int} : ∀ e, 34 ∉ l → quoN e l = l.length := by
  induction l with
  | nil => intro e _; rfl
  | cons c r ih =>
    intro e h
    rw [quoN, if_neg (fun g => h (by rw [g.1]; exact List.mem_cons_self ..)), ih _ (fun g => h (List.mem_cons_of_mem _ g)), List.length_cons]
    omega
theorem quo_idx {l : List Int} : ∀ p : Nat, idx l 34 = (p : Int) → 92 ∉ l.take p → quoN false l = p := by
  induction l with
  | nil => intro p h; exact absurd h (by simp only [idx]; omega)
  | cons c r ih =>
    intro p h h92
    rw [idx] at h
    by_cases hc : c = 34
    · rw [if_pos hc] at h
      rw [quoN, if_pos ⟨hc, rfl⟩]; omega
    · rw [if_neg hc] at h
      have hr := idx_rng r 34
      by_cases g : idx r 34 = -1
      · rw [if_pos g] at h; omega
      · rw [if_neg g] at h
        obtain ⟨m, rfl⟩ : ∃ m, p = m + 1 := ⟨p - 1, by omega⟩
        rw [List.take_succ_cons, List.mem_cons, not_or] at h92
        have e : (c == 92 && !false) = false := by simp; exact fun g => h92.1 g.symm
        rw [quoN, if_neg (fun g => hc g.1), e, ih m (by omega) h92.2]; omega
theorem tok_from (s : ByteArray) (hs : s.size ≤ 140737488351232) (i : Nat) (hi : i < s.size) : tokN ((ns s).drop i) = if tokB (bt s (i : Int)) = true then 1 + tokN ((ns s).drop (i + 1)) else 0 := by
  have hlt : i < (ns s).length := by rw [ns_length]; omega
  rw [List.drop_eq_getElem_cons hlt, tokN, bt_ns, List.getD_eq_getElem?_getD, List.getElem?_eq_getElem hlt]; rfl
theorem bt_rng (s : ByteArray) (i : Nat) (hi : i < s.size) : 0 ≤ bt s (i : Int) ∧ bt s (i : Int) ≤ 255 := by
  have hlt : i < (ns s).length := by rw [ns_length]; omega
  have : bt s (i : Int) = (ns s)[i] := by rw [bt_ns, List.getD_eq_getElem?_getD, List.getElem?_eq_getElem hlt]; rfl
  rw [this]; exact ns_range s _ (List.getElem_mem hlt)
theorem ex_zero (s : ByteArray) (n : Nat) : ns (s.extract 0 n) = (ns s).take n := by rw [ns_extract, List.drop_zero, Nat.sub_zero]
theorem val_from (s : ByteArray) (hs : s.size ≤ 140737488351232) (N : Nat) (hN : tokN (ns s) = N) (hNs : N ≤ s.size) : ∀ d i : Nat, i + d = s.size → i + tokN ((ns s).drop i) = N →
    Ev (fun k => spec_value.l0 k s (i : Int)) (if N = 0 then ((⟨#[]⟩ : ByteArray), (⟨#[]⟩ : ByteArray), (0 : Int)) else (s.extract 0 N, s.extract N s.size, 1)) := by
  intro d
  induction d with
  | zero =>
    intro i hi ht
    have e0 : (ns s).drop i = [] := List.drop_eq_nil_of_le (by rw [ns_length]; omega)
    rw [e0] at ht
    obtain rfl : i = N := by simpa [tokN] using ht
    refine Ev.step (f := fun _ => some _) (fun k => ?_) (Ev.now _)
    rw [spec_value.l0, if_neg (by omega)]
    by_cases h0 : i = 0
    · rw [if_pos (by omega), if_pos h0]
    · rw [if_neg (by omega), if_pos (by omega), if_pos (by omega), if_neg h0, Int.toNat_natCast]
  | succ d ih =>
    intro i hi ht
    have hb := bt_rng s i (by omega)
    rw [tok_from s hs i (by omega)] at ht
    refine Ev.step (f := fun k => (spec_FieldByte.f k (bt s (i : Int))).bind fun t => if t = true then spec_value.l0 k s ((i + 1 : Nat) : Int) else (if (i : Int) = 0 then (some ((⟨#[]⟩ : ByteArray), (⟨#[]⟩ : ByteArray), 0)) else (if (i : Int) ≤ (s.size : Int) then (some (s.extract 0 i, s.extract i s.size, 1)) else (none)))) (fun k => ?_) (Ev.bind (field_ends _ hb.1 hb.2) ?_)
    · rw [spec_value.l0, if_pos (by omega), if_pos (by omega), wrap_add (by omega) (by omega), Int.toNat_natCast]
      rfl
    · refine Ev.ite (fun h => ?_) (fun h => ?_)
      · rw [if_pos h] at ht
        exact ih (i + 1) (by omega) (by omega)
      · rw [if_neg h] at ht
        obtain rfl : i = N := by omega
        by_cases h0 : i = 0
        · refine Ev.if_true (by omega) (Ev.val (by rw [if_pos h0]))
        · refine Ev.if_false (by omega) (Ev.if_true (by omega) (Ev.val (by rw [if_neg h0])))
theorem value_ends (s : ByteArray) (hs : s.size ≤ 1099511627776) : ∃ t, Ev (fun k => spec_value.f k s) t ∧ (t.2.2 = 2 ∨ (t.2.2 = 0 ∧ valP (ns s) = none) ∨ (t.2.2 = 1 ∧ valP (ns s) = some (ns t.1, ns t.2.1))) := by
  have hl := ns_length s
  by_cases h0 : s.size = 0
  · refine ⟨((⟨#[]⟩ : ByteArray), (⟨#[]⟩ : ByteArray), 0), ?_, .inr (.inl ⟨rfl, by rw [valP, if_pos (by omega)]⟩)⟩
    simp only [spec_value.f]
    refine Ev.if_true ((tl_nil s).2 h0) (Ev.step (f := fun k => spec_value.l0 k s 0) (fun k => by rw [spec_value.j0, if_neg (by simp)]) ?_)
    have e : ns s = [] := List.length_eq_zero_iff.1 (by omega)
    have := val_from s (by omega) 0 (by rw [e]; rfl) (by omega) 0 0 (by omega) (by rw [e]; rfl)
    rw [if_pos rfl] at this
    exact this
  · obtain ⟨c, r, e, hb, hx⟩ := head_ns h0
    have hg : (ns s).getD 0 0 = c := by rw [e]; rfl
    have hd : (ns s).drop 1 = r := by rw [e]; rfl
    by_cases h34 : c = 34
    · have hv : valP (ns s) = if 1 + quoN false r < (ns s).length then some (r.take (quoN false r), (ns s).drop (1 + quoN false r + 1)) else none := by
        unfold valP; rw [if_neg (by omega), hg, if_pos h34, hd]
      have hj : ∀ (t : ByteArray × ByteArray × Int), Ev (fun k => ((spec_place.f k (s.extract 1 s.size) 34).bind fun t155 => (if t155 < 0 then (some ((⟨#[]⟩ : ByteArray), (⟨#[]⟩ : ByteArray), 0)) else (if 0 ≤ (wrap64 (t155 + 1)) then (if (wrap64 (t155 + 1)) ≤ (s.size : Int) then ((spec_place.f k (s.extract 0 ((wrap64 (t155 + 1)) : Int).toNat) 92).bind fun t156 => (if t156 ≥ 0 then (some ((⟨#[]⟩ : ByteArray), (⟨#[]⟩ : ByteArray), 2)) else (if 1 ≤ (wrap64 (t155 + 1)) then (if 0 ≤ (wrap64 (t155 + 2)) then (if (wrap64 (t155 + 2)) ≤ (s.size : Int) then (some (s.extract 1 ((wrap64 (t155 + 1)) : Int).toNat, s.extract ((wrap64 (t155 + 2)) : Int).toNat s.size, 1)) else (none)) else (none)) else (none)))) else (none)) else (none))))) t → Ev (fun k => spec_value.f k s) t := by
        intro t ht
        simp only [spec_value.f]
        refine Ev.if_false (fun g => h0 ((tl_nil s).1 g)) (Ev.if_true (by omega) ?_)
        rw [hb, h34]
        exact Ev.step (fun k => by rw [show ((34 : Int) == 34) = true from rfl, spec_value.j0, if_pos rfl, if_pos (by omega)]) ht
      have hpl := place_ends (s.extract 1 s.size) 34 (by rw [ByteArray.size_extract]; omega)
      rw [hx] at hpl
      have hrl : r.length + 1 = s.size := by rw [← hl, e]; rfl
      have hr := idx_rng r 34
      by_cases hn : idx r 34 = -1
      · refine ⟨((⟨#[]⟩ : ByteArray), (⟨#[]⟩ : ByteArray), 0), ?_, .inr (.inl ⟨rfl, by rw [hv, quo_all false (idx_none.1 hn), if_neg (by omega)]⟩)⟩
        refine hj _ (Ev.bind hpl (Ev.if_true (by omega) (Ev.now _)))
      · obtain ⟨p, hp⟩ : ∃ p : Nat, idx r 34 = (p : Int) := ⟨(idx r 34).toNat, by omega⟩
        rw [hp] at hpl hr hn
        have hw1 : wrap64 ((p : Int) + 1) = ((p + 1 : Nat) : Int) := by rw [wrap_add (by omega) (by omega)]; rfl
        have hw2 : wrap64 ((p : Int) + 2) = ((p + 2 : Nat) : Int) := by unfold wrap64; omega
        have hpl2 := place_ends (s.extract 0 (p + 1)) 92 (by rw [ByteArray.size_extract]; omega)
        rw [ex_zero, e, List.take_succ_cons] at hpl2
        by_cases h92 : 92 ∈ r.take p
        · refine ⟨((⟨#[]⟩ : ByteArray), (⟨#[]⟩ : ByteArray), 2), ?_, .inl rfl⟩
          have hm : ¬ idx (c :: r.take p) 92 = -1 := fun g => idx_none.1 g (List.mem_cons_of_mem _ h92)
          have hr2 := idx_rng (c :: r.take p) 92
          refine hj _ (Ev.bind hpl (Ev.if_false (by omega) ?_))
          rw [hw1, Int.toNat_natCast]
          exact Ev.if_true (by omega) (Ev.if_true (by omega) (Ev.bind hpl2 (Ev.if_true (by omega) (Ev.now _))))
        · refine ⟨(s.extract 1 (p + 1), s.extract (p + 2) s.size, 1), ?_, .inr (.inr ⟨rfl, ?_⟩)⟩
          · have hm : idx (c :: r.take p) 92 = -1 := idx_none.2 (by rw [List.mem_cons, not_or]; exact ⟨by omega, h92⟩)
            refine hj _ (Ev.bind hpl (Ev.if_false (by omega) ?_))
            rw [hw1, hw2, Int.toNat_natCast, Int.toNat_natCast]
            exact Ev.if_true (by omega) (Ev.if_true (by omega) (Ev.bind hpl2 (Ev.if_false (by omega) (Ev.if_true (by omega) (Ev.if_true (by omega) (Ev.if_true (by omega) (Ev.now _)))))))
          · rw [hv, quo_idx p hp h92, if_pos (by omega), ns_extract, ns_from, hd]
            simp only [Nat.add_sub_cancel]
            rw [show 1 + p + 1 = p + 2 by omega]
    · have hv : valP (ns s) = if tokN (ns s) = 0 then none else some ((ns s).take (tokN (ns s)), (ns s).drop (tokN (ns s))) := by
        unfold valP; rw [if_neg (by omega), hg, if_neg h34]
      obtain ⟨N, hN⟩ : ∃ N, tokN (ns s) = N := ⟨_, rfl⟩
      have hNs := tokN_le (ns s)
      have := val_from s (by omega) N hN (by omega) s.size 0 (by omega) (by rw [List.drop_zero, hN]; omega)
      refine ⟨_, ?_, .inr (?_ : (if N = 0 then ((⟨#[]⟩ : ByteArray), (⟨#[]⟩ : ByteArray), (0 : Int)) else (s.extract 0 N, s.extract N s.size, 1)).2.2 = 0 ∧ _ ∨ _)⟩
      · simp only [spec_value.f]
        refine Ev.if_false (fun g => h0 ((tl_nil s).1 g)) (Ev.if_true (by omega) ?_)
        rw [hb, show (c == 34) = false from beq_eq_false_iff_ne.2 h34]
        exact Ev.step (fun k => by rw [spec_value.j0, if_neg (by simp)]; rfl) this
      · rw [hv, hN]
        by_cases hz : N = 0
        · rw [if_pos hz, if_pos hz]; exact .inl ⟨rfl, rfl⟩
        · rw [if_neg hz, if_neg hz]; exact .inr ⟨rfl, by rw [ex_zero, ns_from]⟩
theorem one_stop {xs t : List Int} (ht : t = ltrim xs) (h : t.length = 0 ∨ t.getD 0 0 ≠ 59) : oneP xs = none := by rw [oneP, ← ht, if_pos h]
theorem one_go {xs t u : List Int} (ht : t = ltrim xs) (h0 : ¬ t.length = 0) (h1 : t.getD 0 0 = 59) (hu : u = ltrim (t.drop 1)) : oneP xs = oneU u := by
  rw [oneP, ← ht, if_neg (fun g => g.elim h0 (fun g => g h1)), ← hu]
theorem name_from (m : Int) (out : List Sp) (u : ByteArray) (hs : u.size ≤ 1099511627776) (N : Nat) (hN : tokN (ns u) = N) (r : List Sp × Int) (h : Ev (fun k => spec_Params.j4 k m out u (N : Int)) r) :
    ∀ d i : Nat, i + d = u.size → i + tokN ((ns u).drop i) = N → Ev (fun k => spec_Params.l1 k m out u (i : Int)) r := by
  intro d
  induction d with
  | zero =>
    intro i hi ht
    have e0 : (ns u).drop i = [] := List.drop_eq_nil_of_le (by rw [ns_length]; omega)
    rw [e0] at ht
    obtain rfl : i = N := by simpa [tokN] using ht
    exact Ev.step (fun k => by rw [spec_Params.l1, if_neg (by omega)]) h
  | succ d ih =>
    intro i hi ht
    have hb := bt_rng u i (by omega)
    rw [tok_from u (by omega) i (by omega)] at ht
    refine Ev.step (f := fun k => (spec_FieldByte.f k (bt u (i : Int))).bind fun t => if t = true then spec_Params.l1 k m out u ((i + 1 : Nat) : Int) else spec_Params.j4 k m out u (i : Int)) (fun k => ?_) (Ev.bind (field_ends _ hb.1 hb.2) ?_)
    · rw [spec_Params.l1, if_pos (by omega), if_pos (by omega), wrap_add (by omega) (by omega)]
      rfl
    · refine Ev.ite (fun g => ?_) (fun g => ?_)
      · rw [if_pos g] at ht
        exact ih (i + 1) (by omega) (by omega)
      · rw [if_neg g] at ht
        obtain rfl : i = N := by omega
        exact h
def takeM (m : Int) (c : Nat) (l : SP) : SP := if m < 0 then l else l.take (m.toNat - c)
theorem takeM_nil {m : Int} {c : Nat} (h : ¬ m < 0) (h2 : ¬ (c : Int) < m) (l : SP) : takeM m c l = [] := by
  rw [takeM, if_neg h, show m.toNat - c = 0 by omega, List.take_zero]
theorem takeM_cons {m : Int} {c : Nat} (h : m < 0 ∨ (c : Int) < m) (p : ByteArray × ByteArray) (l : SP) : takeM m c (p :: l) = p :: takeM m (c + 1) l := by
  unfold takeM
  by_cases g : m < 0
  · rw [if_pos g, if_pos g]
  · obtain ⟨n, hn⟩ : ∃ n, m.toNat - c = n + 1 := ⟨m.toNat - c - 1, by omega⟩
    rw [if_neg g, if_neg g, hn, List.take_succ_cons, show m.toNat - (c + 1) = n by omega]
theorem takeM_nil' (m : Int) (c : Nat) : takeM m c [] = [] := by unfold takeM; split <;> simp
set_option maxHeartbeats 1000000 in
theorem params_from (m : Int) : ∀ (f : Nat) (x : ByteArray) (out : List Sp), x.size ≤ f → out.length + x.size ≤ 1099511627776 → 9 ∉ ns x →
    ∃ r, Ev (fun k => spec_Params.l0 k x m out) r ∧ (r.2 = 2 ∨ (r.2 = 1 ∧ r.1 = out ++ (takeM m out.length (parL f (ns x))).map toSp)) := by
  intro f
  induction f with
  | zero =>
    intro x out hf hs h9
    have e : ns x = [] := List.length_eq_zero_iff.1 (by rw [ns_length]; omega)
    obtain ⟨t, ht, hn⟩ := gap_ends x.size x (Nat.le_refl _) h9
    have ht0 : t.size = 0 := by have := ns_length t; rw [hn, e] at this; simpa [ltrim] using this.symm
    refine ⟨(out, 1), ?_, .inr ⟨rfl, by rw [parL, takeM_nil']; simp⟩⟩
    have stop : Ev (fun k => spec_Params.j1 k x m out true) (out, 1) := by
      refine Ev.step (f := fun k => (spec_gap.f k x).bind fun t159 => (if t159.toList = ([] : List UInt8) then (spec_Params.j2 k m out t159 true) else (if 0 < (t159.size : Int) then (spec_Params.j2 k m out t159 ((bt t159 0) != 59)) else (none)))) (fun k => by rw [spec_Params.j1, if_pos rfl]) (Ev.bind ht ?_)
      exact Ev.if_true ((tl_nil t).2 ht0) (Ev.step (f := fun _ => some _) (fun k => by rw [spec_Params.j2, if_pos rfl]) (Ev.now _))
    by_cases hm : m < 0
    · exact Ev.step (fun k => by rw [spec_Params.l0, if_pos hm]) stop
    · by_cases hc : (out.length : Int) < m
      · exact Ev.step (fun k => by rw [spec_Params.l0, if_neg hm, decide_eq_true hc]) stop
      · exact Ev.step (f := fun k => spec_Params.j1 k x m out false) (fun k => by rw [spec_Params.l0, if_neg hm, decide_eq_false hc]) (Ev.step (f := fun _ => some _) (fun k => by rw [spec_Params.j1, if_neg (by simp)]) (Ev.now _))
  | succ f ih =>
    intro x out hf hs h9
    -- what one round leaves
    suffices hgo : (m < 0 ∨ (out.length : Int) < m) → ∃ r, Ev (fun k => spec_Params.j1 k x m out true) r ∧ (r.2 = 2 ∨ (r.2 = 1 ∧ r.1 = out ++ (takeM m out.length (parL (f + 1) (ns x))).map toSp)) by
      by_cases hm : m < 0
      · obtain ⟨r, hr, h⟩ := hgo (.inl hm)
        exact ⟨r, Ev.step (fun k => by rw [spec_Params.l0, if_pos hm]) hr, h⟩
      · by_cases hc : (out.length : Int) < m
        · obtain ⟨r, hr, h⟩ := hgo (.inr hc)
          exact ⟨r, Ev.step (fun k => by rw [spec_Params.l0, if_neg hm, decide_eq_true hc]) hr, h⟩
        · exact ⟨(out, 1), Ev.step (f := fun k => spec_Params.j1 k x m out false) (fun k => by rw [spec_Params.l0, if_neg hm, decide_eq_false hc]) (Ev.step (f := fun _ => some _) (fun k => by rw [spec_Params.j1, if_neg (by simp)]) (Ev.now _)), .inr ⟨rfl, by rw [takeM_nil hm hc]; simp⟩⟩
    intro hgo
    obtain ⟨t, ht, hn⟩ := gap_ends x.size x (Nat.le_refl _) h9
    have hlx := ns_length x
    have hlt := ns_length t
    have htl := p_ltrim_le (ns x)
    rw [← hn] at htl
    have ht9 : 9 ∉ ns t := fun g => h9 (by rw [hn] at g; exact p_ltrim_mem g)
    have j1 : ∀ r, Ev (fun k => (if t.toList = ([] : List UInt8) then (spec_Params.j2 k m out t true) else (if 0 < (t.size : Int) then (spec_Params.j2 k m out t ((bt t 0) != 59)) else (none)))) r → Ev (fun k => spec_Params.j1 k x m out true) r := by
      intro r hr
      exact Ev.step (f := fun k => (spec_gap.f k x).bind fun t159 => (if t159.toList = ([] : List UInt8) then (spec_Params.j2 k m out t159 true) else (if 0 < (t159.size : Int) then (spec_Params.j2 k m out t159 ((bt t159 0) != 59)) else (none)))) (fun k => by rw [spec_Params.j1, if_pos rfl]) (Ev.bind ht hr)
    have j2stop : Ev (fun k => spec_Params.j2 k m out t true) (out, 1) := Ev.step (f := fun _ => some _) (fun k => by rw [spec_Params.j2, if_pos rfl]) (Ev.now _)
    have stopped : oneP (ns x) = none → ((out, (1 : Int)) : List Sp × Int).2 = 2 ∨ (((out, (1 : Int)) : List Sp × Int).2 = 1 ∧ ((out, (1 : Int)) : List Sp × Int).1 = out ++ (takeM m out.length (parL (f + 1) (ns x))).map toSp) :=
      fun h => .inr ⟨rfl, by rw [parL, h]; simp only [takeM_nil', List.map_nil, List.append_nil]⟩
    by_cases h0 : t.size = 0
    · exact ⟨(out, 1), j1 _ (Ev.if_true ((tl_nil t).2 h0) j2stop), stopped (one_stop hn (.inl (by omega)))⟩
    · obtain ⟨c, r0, e, hb, hx⟩ := head_ns h0
      have hg : (ns t).getD 0 0 = c := by rw [e]; rfl
      by_cases h59 : c = 59
      · obtain ⟨u, hu, hun⟩ := gap_ends t.size (t.extract 1 t.size) (by rw [ByteArray.size_extract]; omega) (by rw [ns_from]; exact fun g => ht9 (List.mem_of_mem_drop g))
        rw [ns_from] at hun
        have hone := one_go hn (by omega) (hg.trans h59) hun
        have hul : (ns u).length ≤ (ns t).length - 1 := by
          rw [hun]
          exact Nat.le_trans (p_ltrim_le _) (by rw [List.length_drop]; exact Nat.le_refl _)
        have hlu := ns_length u
        have hu9 : 9 ∉ ns u := fun g => ht9 (by rw [hun] at g; exact List.mem_of_mem_drop (p_ltrim_mem g))
        have j2go : ∀ r, Ev (fun k => spec_Params.l1 k m out u 0) r → Ev (fun k => spec_Params.j1 k x m out true) r := by
          intro r hr
          refine j1 r (Ev.if_false (fun g => h0 ((tl_nil t).1 g)) (Ev.if_true (by omega) ?_))
          rw [hb, h59]
          exact Ev.step (f := fun k => (spec_gap.f k (t.extract 1 t.size)).bind fun t160 => (spec_Params.l1 k m out t160 0)) (fun k => by rw [show ((59 : Int) != 59) = false from rfl, spec_Params.j2, if_neg (by simp), if_pos (by omega)]) (Ev.bind hu hr)
        obtain ⟨N, hN⟩ : ∃ N, tokN (ns u) = N := ⟨_, rfl⟩
        have hNl := tokN_le (ns u)
        have j4go : ∀ r, Ev (fun k => spec_Params.j4 k m out u (N : Int)) r → Ev (fun k => spec_Params.j1 k x m out true) r := fun r hr =>
          j2go r (name_from m out u (by omega) N hN r hr u.size 0 (by omega) (by rw [List.drop_zero, hN]; omega))
        have j5stop : Ev (fun k => spec_Params.j5 k m out u (N : Int) true) (out, 1) := Ev.step (f := fun _ => some _) (fun k => by rw [spec_Params.j5, if_pos rfl]) (Ev.now _)
        by_cases hz : N = 0
        · exact ⟨(out, 1), j4go _ (Ev.step (fun k => by rw [spec_Params.j4, if_pos (by omega)]) j5stop), stopped (by rw [hone, oneU_n0 (by omega)])⟩
        · by_cases hend : N = u.size
          · exact ⟨(out, 1), j4go _ (Ev.step (fun k => by rw [spec_Params.j4, if_neg (by omega), if_pos (by omega)]) j5stop), stopped (by rw [hone, oneU_eq hN (.inl (by omega))])⟩
          · have z1 : ¬ (N : Int) = 0 := by omega
            have z2 : ¬ (N : Int) = (u.size : Int) := by omega
            have z3 : (0 : Int) ≤ (N : Int) := by omega
            have z4 : (N : Int) < (u.size : Int) := by omega
            have z5 : (0 : Int) ≤ ((N + 1 : Nat) : Int) := by omega
            have z6 : ((N + 1 : Nat) : Int) ≤ (u.size : Int) := by omega
            have z7 : (N : Int) ≤ (u.size : Int) := by omega
            have z8 : out.length < 4398046511104 := by omega
            have z9 : N < (ns u).length := by omega
            have hw := Lib.hid (show wrap64 ((N : Int) + 1) = ((N + 1 : Nat) : Int) by rw [wrap_add (by omega) (by omega)]; rfl)
            have hbt := Lib.hid (bt_ns u N)
            by_cases h61 : (ns u).getD N 0 = 61
            · have hov := oneU_val hN hz z9 h61
              have H61 := Lib.hid h61
              clear h61
              obtain ⟨v, hv, hcase⟩ := value_ends (u.extract (N + 1) u.size) (by rw [ByteArray.size_extract]; omega)
              rw [ns_from] at hcase
              have j5go : ∀ r, Ev (fun k => (if v.2.2 = 2 then (some (([] : List Sp), 2)) else (if v.2.2 = 0 then (some (out, 1)) else (if 0 ≤ (N : Int) then (if (N : Int) ≤ (u.size : Int) then (if out.length < 4398046511104 then (spec_Params.l0 k v.2.1 m (out ++ [(⟨u.extract 0 (N : Int).toNat, v.1⟩ : Sp)])) else (none)) else (none)) else (none))))) r → Ev (fun k => spec_Params.j1 k x m out true) r := by
                intro r hr
                refine j4go r (Ev.step (f := fun k => spec_Params.j5 k m out u (N : Int) false) (fun k => by rw [spec_Params.j4, if_neg z1, if_neg z2, if_pos z3, if_pos z4, hbt.out, H61.out, show ((61 : Int) != 61) = false from rfl]) ?_)
                refine Ev.step (f := fun k => (spec_value.f k (u.extract (N + 1) u.size)).bind fun bt162 => (if bt162.2.2 = 2 then (some (([] : List Sp), 2)) else (if bt162.2.2 = 0 then (some (out, 1)) else (if 0 ≤ (N : Int) then (if (N : Int) ≤ (u.size : Int) then (if out.length < 4398046511104 then (spec_Params.l0 k bt162.2.1 m (out ++ [(⟨u.extract 0 (N : Int).toNat, bt162.1⟩ : Sp)])) else (none)) else (none)) else (none))))) (fun k => ?_) (Ev.bind hv hr)
                rw [spec_Params.j5, if_neg (by simp), hw.out, if_pos z5, if_pos z6, Int.toNat_natCast (N + 1)]
              rcases hcase with h2 | ⟨h2, hval⟩ | ⟨h2, hval⟩
              · exact ⟨(([] : List Sp), 2), j5go _ (Ev.if_true h2 (Ev.now _)), .inl rfl⟩
              · exact ⟨(out, 1), j5go _ (Ev.if_false (by omega) (Ev.if_true h2 (Ev.now _))), stopped (by rw [hone, hov, hval]; rfl)⟩
              · have hrest : (ns v.2.1).length < (ns x).length ∧ 9 ∉ ns v.2.1 := by
                  have hsub : ∃ n, ns v.2.1 = ((ns u).drop (N + 1)).drop n := by
                    unfold valP at hval
                    split at hval
                    · cases hval
                    · split at hval
                      · split at hval
                        · exact ⟨_, (congrArg Prod.snd (Option.some.inj hval)).symm⟩
                        · cases hval
                      · split at hval
                        · cases hval
                        · exact ⟨_, (congrArg Prod.snd (Option.some.inj hval)).symm⟩
                  obtain ⟨n, hn2⟩ := hsub
                  refine ⟨by rw [hn2, List.length_drop, List.length_drop]; omega, fun g => hu9 ?_⟩
                  rw [hn2] at g
                  exact List.mem_of_mem_drop (List.mem_of_mem_drop g)
                have hlv := ns_length v.2.1
                obtain ⟨r, hr, hres⟩ := ih v.2.1 (out ++ [(⟨u.extract 0 N, v.1⟩ : Sp)]) (by omega) (by rw [List.length_append, List.length_singleton]; omega) hrest.2
                refine ⟨r, j5go r (Ev.if_false (by omega) (Ev.if_false (by omega) (Ev.if_true z3 (Ev.if_true z7 (Ev.if_true z8 ?_))))), ?_⟩
                · rw [Int.toNat_natCast]; exact hr
                · refine hres.imp id (fun ⟨g1, g2⟩ => ⟨g1, ?_⟩)
                  have hp1 : oneP (ns x) = some ((ns u).take N, ns v.1, ns v.2.1) := by rw [hone, hov, hval]; rfl
                  have hp2 : parL (f + 1) (ns x) = (u.extract 0 N, v.1) :: parL f (ns v.2.1) := by
                    rw [parL, hp1]
                    simp only [strOf_ns]
                    rw [← ex_zero, strOf_ns]
                  rw [g2, hp2, takeM_cons hgo, List.map_cons, List.length_append, List.length_singleton, List.append_assoc]
                  rfl
            · refine ⟨(out, 1), j4go _ (Ev.step (f := fun k => spec_Params.j5 k m out u (N : Int) true) (fun k => ?_) j5stop), stopped (by rw [hone, oneU_eq hN (.inr h61)])⟩
              rw [spec_Params.j4, if_neg z1, if_neg z2, if_pos z3, if_pos z4, hbt.out, show ((ns u).getD N 0 != 61) = true from bne_iff_ne.2 h61]
      · refine ⟨(out, 1), j1 _ (Ev.if_false (fun g => h0 ((tl_nil t).1 g)) (Ev.if_true (by omega) ?_)), stopped (one_stop hn (.inr (by rw [hg]; exact h59)))⟩
        rw [hb, show (c != 59) = true from bne_iff_ne.2 h59]
        exact j2stop
theorem params_ends (x : ByteArray) (m : Int) (hs : x.size ≤ 1099511627776) : ∃ r, Ev (fun k => spec_Params.f k x m) r ∧ (r.2 = 2 ∨ (r.2 = 1 ∧ 9 ∉ ns x ∧ r.1 = (takeM m 0 (parL x.size (ns x))).map toSp)) := by
  have hp := place_ends x 9 (by omega)
  have hr := idx_rng (ns x) 9
  by_cases h9 : 9 ∈ ns x
  · have : ¬ idx (ns x) 9 = -1 := fun g => idx_none.1 g h9
    exact ⟨(([] : List Sp), 2), Ev.bind hp (Ev.if_true (by omega) (Ev.now _)), .inl rfl⟩
  · have : idx (ns x) 9 = -1 := idx_none.2 h9
    obtain ⟨r, h, hc⟩ := params_from m x.size x [] (Nat.le_refl _) (by simpa using hs) h9
    exact ⟨r, Ev.bind hp (Ev.if_false (by omega) h), hc.imp id (fun ⟨a, b⟩ => ⟨a, h9, by simpa using b⟩)⟩
end Go.Proofs.Ytgmjaggkiifdjaa.Given
namespace Go.Proofs.Ytgmjaggkiifdjaa.Given
open Go.RowKit Go.Proofs.YtgmjaggkiifdjaaW.PrintWords Go.Proofs.YtgmjaggkiifdjaaW.PrintLast Go.Proofs.YtgmjaggkiifdjaaW.PrintMore Go.Proofs.Ytgmjaggkiifdjaa.Base Go.Proofs.Ytgmjaggkiifdjaa.Gv
def restQ : Bool → List Int → List Int → List (List Int)
  | _, cur, [] => [cur]
  | q, cur, c :: r => if c = 44 ∧ q = false then cur :: restQ false [] r else restQ (if c = 34 then !q else q) (cur ++ [c]) r
def qn (q : Bool) : Nat := if q then 1 else 0
theorem scan_mod (xs : List Int) (h : 92 ∉ xs) : ∀ q q', q % 2 = q' % 2 → scanQ q false xs = scanQ q' false xs := by
  induction xs with
  | nil => intro q q' _; rfl
  | cons c r ih =>
    intro q q' e
    have h1 : 92 ∉ r := fun g => h (List.mem_cons_of_mem _ g)
    have h2 : c ≠ 92 := fun g => h (by rw [g]; exact List.mem_cons_self ..)
    simp only [scanQ, e, if_neg h2]
    rw [ih h1 q q' e, if_neg (show ¬ (false = true) by simp), if_neg (show ¬ (false = true) by simp), ih h1 (q + 1) (q' + 1) (by omega)]
theorem rest_cut (xs : List Int) (h : 92 ∉ xs) : ∀ q cur, restQ q cur xs = (cur ++ xs.take (scanQ (qn q) false xs)) :: (if xs.length ≤ scanQ (qn q) false xs then [] else restQ false [] (xs.drop (scanQ (qn q) false xs + 1))) := by
  induction xs with
  | nil => intro q cur; simp [restQ, scanQ]
  | cons c r ih =>
    intro q cur
    have h1 : 92 ∉ r := fun g => h (List.mem_cons_of_mem _ g)
    have h2 : c ≠ 92 := fun g => h (by rw [g]; exact List.mem_cons_self ..)
    rw [restQ]
    by_cases hc : c = 44
    · cases q with
      | false =>
        rw [if_pos ⟨hc, rfl⟩]
        have e : scanQ (qn false) false (c :: r) = 0 := by simp [scanQ, hc, qn]
        rw [e, List.take_zero, List.append_nil, if_neg (by simp)]
        rfl
      | true =>
        rw [if_neg (by simp), if_neg (by rw [hc]; decide), ih h1]
        have e : scanQ (qn true) false (c :: r) = 1 + scanQ (qn true) false r := by simp [scanQ, hc, qn]
        rw [e, Nat.add_comm 1, List.take_succ_cons, List.drop_succ_cons, List.append_assoc, List.length_cons]
        simp only [List.singleton_append, Nat.add_le_add_iff_right]
    · rw [if_neg (fun g => hc g.1)]
      by_cases h3 : c = 34
      · rw [if_pos h3, ih h1]
        have e : scanQ (qn q) false (c :: r) = 1 + scanQ (qn (!q)) false r := by
          rw [scanQ, if_neg hc, if_pos h3, if_neg (by simp)]
          rw [scan_mod r h1 (qn q + 1) (qn (!q)) (by cases q <;> rfl)]
        rw [e, Nat.add_comm 1, List.take_succ_cons, List.drop_succ_cons, List.append_assoc, List.length_cons]
        simp only [List.singleton_append, Nat.add_le_add_iff_right]
      · rw [if_neg h3, ih h1]
        have e : scanQ (qn q) false (c :: r) = 1 + scanQ (qn q) false r := by rw [scanQ, if_neg hc, if_neg h3, if_neg h2]
        rw [e, Nat.add_comm 1, List.take_succ_cons, List.drop_succ_cons, List.append_assoc, List.length_cons]
        simp only [List.singleton_append, Nat.add_le_add_iff_right]
theorem scan_idx (xs : List Int) (h : 34 ∉ xs) (h' : 92 ∉ xs) : scanQ 0 false xs = if idx xs 44 = -1 then xs.length else (idx xs 44).toNat := by
  induction xs with
  | nil => rfl
  | cons c r ih =>
    have h1 : 34 ∉ r := fun g => h (List.mem_cons_of_mem _ g)
    have h2 : 92 ∉ r := fun g => h' (List.mem_cons_of_mem _ g)
    have h3 : c ≠ 34 := fun g => h (by rw [g]; exact List.mem_cons_self ..)
    have h4 : c ≠ 92 := fun g => h' (by rw [g]; exact List.mem_cons_self ..)
    have hr := idx_rng r 44
    rw [scanQ, idx, if_neg h3, if_neg h4, ih h1 h2, List.length_cons]
    by_cases hc : c = 44
    · rw [if_pos hc, if_pos hc, if_pos rfl]; simp
    · rw [if_neg hc, if_neg hc]
      split
      · simp_all; omega
      · rename_i g
        rw [if_neg (by omega)]
        omega
theorem cut_scan (dq : Bool) (t : List Int) (h : dq = false → 34 ∉ t) (h' : 92 ∉ t) : cutAt dq t = scanQ 0 false t := by
  unfold cutAt
  cases dq with
  | true => rfl
  | false => rw [if_neg (by simp), scan_idx t (h rfl) h']
theorem ltrim_split (h : List Int) : ∃ b, h = List.replicate b 32 ++ ltrim h ∧ (ltrim h).head? ≠ some 32 := by
  induction h with
  | nil => exact ⟨0, rfl, by simp [ltrim]⟩
  | cons c r ih =>
    by_cases hc : c = 32
    · obtain ⟨b, e, g⟩ := ih
      have e2 : ltrim (c :: r) = ltrim r := by unfold ltrim; rw [List.dropWhile_cons_of_pos (by simp [hc])]
      exact ⟨b + 1, by rw [e2, List.replicate_succ, List.cons_append, ← e, hc], by rw [e2]; exact g⟩
    · have e2 : ltrim (c :: r) = c :: r := by unfold ltrim; rw [List.dropWhile_cons_of_neg (by simp [hc])]
      exact ⟨0, by rw [e2]; rfl, by rw [e2]; simp [hc]⟩
theorem ltrim_of {t : List Int} (h : t.head? ≠ some 32) : ltrim t = t := by
  cases t with
  | nil => rfl
  | cons c r => unfold ltrim; rw [List.dropWhile_cons_of_neg (by simpa using h)]
theorem ltrim_rep (b : Nat) (t : List Int) : ltrim (List.replicate b 32 ++ t) = ltrim t := by
  induction b with
  | zero => rfl
  | succ b ih => rw [List.replicate_succ, List.cons_append]; unfold ltrim at ih ⊢; rw [List.dropWhile_cons_of_pos (by simp)]; exact ih
theorem scan_rep (b : Nat) (t : List Int) : scanQ 0 false (List.replicate b 32 ++ t) = b + scanQ 0 false t := by
  induction b with
  | zero => simp
  | succ b ih => rw [List.replicate_succ, List.cons_append, scanQ, if_neg (by decide), if_neg (by decide), if_neg (by decide), ih]; omega
theorem media_is (dq : Bool) : ∀ (f : Nat) (h : List Int), h.length ≤ f → h ≠ [] → (dq = false → 34 ∉ h) → 92 ∉ h → (∀ p ∈ restQ false [] h, ltrim p ≠ []) → rangesF dq f h = (restQ false [] h).map ltrim
  | 0, h, hf, hn, _, _, _ => absurd (List.length_eq_zero_iff.1 (Nat.le_zero.1 hf)) hn
  | f + 1, h, hf, hn, h34, h92, hp => by
    obtain ⟨b, e, g⟩ := ltrim_split h
    obtain ⟨t, ht⟩ : ∃ t, ltrim h = t := ⟨_, rfl⟩
    rw [ht] at e g
    have hsub : ∀ x, x ∈ t → x ∈ h := fun x hx => by rw [e]; exact List.mem_append_right _ hx
    have hcut := cut_scan dq t (fun g2 g3 => h34 g2 (hsub _ g3)) (fun g3 => h92 (hsub _ g3))
    have hs : scanQ 0 false h = b + scanQ 0 false t := by rw [e]; exact scan_rep b t
    obtain ⟨m, hm⟩ : ∃ m, scanQ 0 false t = m := ⟨_, rfl⟩
    rw [hm] at hs hcut
    have hl : h.length = b + t.length := by rw [e, List.length_append, List.length_replicate]
    have hr := rest_cut h h92 false []
    rw [show qn false = 0 from rfl, hs, List.nil_append] at hr
    have htk : h.take (b + m) = List.replicate b 32 ++ t.take m := by
      rw [e, List.take_append, List.length_replicate, List.take_of_length_le (by rw [List.length_replicate]; omega), Nat.add_sub_cancel_left]
    have hdr : h.drop (b + m + 1) = t.drop (m + 1) := by
      rw [e, List.drop_append, List.length_replicate, List.drop_of_length_le (by rw [List.length_replicate]; omega), List.nil_append]
      congr 1
      omega
    have hlt : ltrim (h.take (b + m)) = t.take m := by
      rw [htk, ltrim_rep]
      refine ltrim_of ?_
      cases t with
      | nil => simp
      | cons c r => cases m <;> simp_all
    have hn0 : ¬ h.length = 0 := fun g2 => hn (List.length_eq_zero_iff.1 g2)
    rw [rangesF, if_neg hn0, ht, hcut, hr, List.map_cons, hlt]
    congr 1
    by_cases hle : t.length ≤ m
    · rw [if_pos hle, if_pos (by omega)]; rfl
    · have hle' : ¬ h.length ≤ b + m := by omega
      rw [if_neg hle, if_neg hle', hdr]
      rw [hr, if_neg hle', hdr] at hp
      refine media_is dq f (t.drop (m + 1)) (by rw [List.length_drop]; omega) ?_ (fun g2 g3 => h34 g2 (hsub _ (List.mem_of_mem_drop g3))) (fun g3 => h92 (hsub _ (List.mem_of_mem_drop g3))) (fun p hpp => hp p (List.mem_cons_of_mem _ hpp))
      intro g2
      rw [g2] at hp
      exact hp [] (by simp [restQ]) rfl
open Go.Proofs.Ytgmjaggkiifdjaa.QA
def trimT (p : List Int) : ByteArray := strOfNums (ltrim p)
theorem cur_next (xs : List Int) (b i : Nat) (hb : b ≤ i) (hi : i < xs.length) : (xs.drop b).take (i - b) ++ [xs[i]] = (xs.drop b).take (i + 1 - b) := by
  rw [show i + 1 - b = (i - b) + 1 by omega, List.take_add_one, List.getElem?_drop, show b + (i - b) = i by omega, List.getElem?_eq_getElem hi]
  rfl
theorem ahead_cut (x : ByteArray) (b i : Nat) : Ev (fun k => spec_ahead.f k (x.extract b i)) (trimT (((ns x).drop b).take (i - b))) := by
  obtain ⟨t, h, hn⟩ := ahead_ends (x.extract b i).size (x.extract b i) (Nat.le_refl _)
  have e : t = trimT (((ns x).drop b).take (i - b)) := by rw [trimT, ← ns_extract, ← hn, strOf_ns]
  rw [← e]; exact h
theorem media_from (x : ByteArray) (hs : x.size ≤ 1099511627776) : ∀ (d i b : Nat) (q : Bool) (out : List ByteArray), i + d = x.size → b ≤ i → out.length + d ≤ 1099511627776 →
    ∃ q', ∀ r, Ev (fun k => spec_MediaRanges.l1 k (out ++ (restQ q (((ns x).drop b).take (i - b)) ((ns x).drop i)).map trimT) q' (out ++ (restQ q (((ns x).drop b).take (i - b)) ((ns x).drop i)).map trimT) ((out ++ (restQ q (((ns x).drop b).take (i - b)) ((ns x).drop i)).map trimT).length : Int) 0) r →
      Ev (fun k => spec_MediaRanges.l0 k x out q (b : Int) (i : Int)) r := by
  intro d
  induction d with
  | zero =>
    intro i b q out hi hb ho
    have e0 : (ns x).drop i = [] := List.drop_eq_nil_of_le (by rw [ns_length]; omega)
    rw [e0]
    refine ⟨q, fun r hr => ?_⟩
    rw [restQ, List.map_cons, List.map_nil] at hr
    have z1 : (i : Int) ≤ (x.size : Int) := by omega
    have z2 : ¬ (i : Int) < (x.size : Int) := by omega
    have z3 : (i : Int) = (x.size : Int) := by omega
    have z4 : (0 : Int) ≤ (b : Int) := by omega
    have z5 : (b : Int) ≤ (i : Int) := by omega
    have z6 : out.length < 8796093022208 := by omega
    have z7 : ¬ ((i + 1 : Nat) : Int) ≤ (x.size : Int) := by omega
    have hw := Lib.hid (show wrap64 ((i : Int) + 1) = ((i + 1 : Nat) : Int) by rw [wrap_add (by omega) (by omega)]; rfl)
    refine Ev.step (f := fun k => spec_MediaRanges.j1 k x out q (b : Int) (i : Int) false) (fun k => by rw [spec_MediaRanges.l0, if_pos z1, if_neg z2]) ?_
    refine Ev.step (f := fun k => (spec_ahead.f k (x.extract b i)).bind fun t124 => spec_MediaRanges.l0 k x (out ++ [t124]) q ((i + 1 : Nat) : Int) ((i + 1 : Nat) : Int)) (fun k => ?_) (Ev.bind (ahead_cut x b i) ?_)
    · rw [spec_MediaRanges.j1, if_neg (by simp), if_pos z3, if_pos z4, if_pos z5, if_pos z1, Int.toNat_natCast, Int.toNat_natCast]
      simp only [if_pos z6, hw.out]
    · exact Ev.step (fun k => by rw [spec_MediaRanges.l0, if_neg z7]) hr
  | succ d ih =>
    intro i b q out hi hb ho
    have hlt : i < (ns x).length := by rw [ns_length]; omega
    have z1 : (i : Int) ≤ (x.size : Int) := by omega
    have z2 : (i : Int) < (x.size : Int) := by omega
    have z3 : ¬ (i : Int) = (x.size : Int) := by omega
    have z4 : (0 : Int) ≤ (b : Int) := by omega
    have z5 : (b : Int) ≤ (i : Int) := by omega
    have z6 : out.length < 8796093022208 := by omega
    have z8 : (0 : Int) ≤ (i : Int) := by omega
    have hw := Lib.hid (show wrap64 ((i : Int) + 1) = ((i + 1 : Nat) : Int) by rw [wrap_add (by omega) (by omega)]; rfl)
    obtain ⟨c, hc⟩ : ∃ c, (ns x)[i] = c := ⟨_, rfl⟩
    have hbt := Lib.hid (show bt x (i : Int) = c by rw [bt_ns, List.getD_eq_getElem?_getD, List.getElem?_eq_getElem hlt]; exact hc)
    have hcur := cur_next (ns x) b i hb hlt
    rw [hc] at hcur
    rw [List.drop_eq_getElem_cons hlt, hc]
    have l0 : ∀ r, Ev (fun k => spec_MediaRanges.j1 k x out q (b : Int) (i : Int) (c == 34)) r → Ev (fun k => spec_MediaRanges.l0 k x out q (b : Int) (i : Int)) r := fun r hr =>
      Ev.step (fun k => by rw [spec_MediaRanges.l0, if_pos z1, if_pos z2, if_pos z8, hbt.out]) hr
    by_cases h34 : c = 34
    · have hc44 : ¬ c = 44 := by omega
      obtain ⟨q', h⟩ := ih (i + 1) b (!q) out (by omega) (by omega) (by omega)
      rw [← hcur] at h
      rw [restQ, if_neg (fun g => hc44 g.1), if_pos h34]
      refine ⟨q', fun r hr => l0 r (Ev.step (f := fun k => spec_MediaRanges.l0 k x out (!q) (b : Int) ((i + 1 : Nat) : Int)) (fun k => ?_) (h r hr))⟩
      rw [show (c == 34) = true from beq_iff_eq.2 h34, spec_MediaRanges.j1, if_pos rfl, if_neg z3, if_pos z8, if_pos z2, hbt.out, if_neg hc44, hw.out]
    · by_cases h44 : c = 44 ∧ q = false
      · obtain ⟨q', h⟩ := ih (i + 1) (i + 1) false (out ++ [trimT (((ns x).drop b).take (i - b))]) (by omega) (by omega) (by rw [List.length_append, List.length_singleton]; omega)
        rw [restQ, if_pos h44, List.map_cons]
        rw [Nat.sub_self, List.take_zero, List.append_assoc, List.singleton_append] at h
        refine ⟨q', fun r hr => l0 r (Ev.step (f := fun k => (spec_ahead.f k (x.extract b i)).bind fun t124 => spec_MediaRanges.l0 k x (out ++ [t124]) false ((i + 1 : Nat) : Int) ((i + 1 : Nat) : Int)) (fun k => ?_) (Ev.bind (ahead_cut x b i) (h r hr)))⟩
        rw [show (c == 34) = false from beq_eq_false_iff_ne.2 h34, h44.2, spec_MediaRanges.j1, if_neg (by simp), if_neg z3, if_pos z8, if_pos z2, hbt.out, if_pos h44.1, if_neg (by simp), if_pos z4, if_pos z5, if_pos z1, Int.toNat_natCast, Int.toNat_natCast]
        simp only [if_pos z6, hw.out]
      · obtain ⟨q', h⟩ := ih (i + 1) b q out (by omega) (by omega) (by omega)
        rw [← hcur] at h
        rw [restQ, if_neg h44, if_neg h34]
        refine ⟨q', fun r hr => l0 r (Ev.step (f := fun k => spec_MediaRanges.l0 k x out q (b : Int) ((i + 1 : Nat) : Int)) (fun k => ?_) (h r hr))⟩
        rw [show (c == 34) = false from beq_eq_false_iff_ne.2 h34, spec_MediaRanges.j1, if_neg (by simp), if_neg z3, if_pos z8, if_pos z2, hbt.out, hw.out]
        by_cases g : c = 44
        · rw [if_pos g, if_pos (by cases q with | true => rfl | false => exact absurd ⟨g, rfl⟩ h44)]
        · rw [if_neg g]
theorem media_l1 (out : List ByteArray) (q : Bool) (hs : out.length ≤ 2199023255552) (d : Nat) : ∀ i : Nat, i + d = out.length →
    Ev (fun k => spec_MediaRanges.l1 k out q out (out.length : Int) (i : Int)) (if (out.drop i).any (fun s => decide (s.size = 0)) = true ∨ q = true then (([] : List ByteArray), (2 : Int)) else (out, 1)) := by
  induction d with
  | zero =>
    intro i hi
    have z1 : ¬ (i : Int) < (out.length : Int) := by omega
    rw [List.drop_eq_nil_of_le (by omega)]
    refine Ev.step (f := fun k => if q = true then (some (([] : List ByteArray), (2 : Int))) else (some (out, 1))) (fun k => by rw [spec_MediaRanges.l1, if_neg z1]) ?_
    refine Ev.ite (fun h => Ev.val ?_) (fun h => Ev.val ?_)
    · rw [if_pos (.inr h)]
    · rw [if_neg (fun g => g.elim (by simp) h)]
  | succ d ih =>
    intro i hi
    have hlt : i < out.length := by omega
    have z1 : (i : Int) < (out.length : Int) := by omega
    have z2 : (0 : Int) ≤ (i : Int) := by omega
    have hw := Lib.hid (show wrap64 ((i : Int) + 1) = ((i + 1 : Nat) : Int) by rw [wrap_add (by omega) (by omega)]; rfl)
    refine Ev.step (f := fun k => if (out[i]).toList = ([] : List UInt8) then (some (([] : List ByteArray), (2 : Int))) else spec_MediaRanges.l1 k out q out (out.length : Int) ((i + 1 : Nat) : Int)) (fun k => by rw [spec_MediaRanges.l1, if_pos z1, if_pos z2, if_pos z1, rdOf_nat _ _ _ hlt, hw.out]) ?_
    rw [List.drop_eq_getElem_cons hlt, List.any_cons]
    refine Ev.ite (fun h => Ev.val ?_) (fun h => ?_)
    · rw [if_pos (.inl (by rw [decide_eq_true ((tl_nil _).1 h)]; rfl))]
    · rw [decide_eq_false (fun g => h ((tl_nil _).2 g)), Bool.false_or]
      exact ih (i + 1) (by omega)
theorem restQ_len (xs : List Int) : ∀ q cur, (restQ q cur xs).length ≤ xs.length + 1 := by
  induction xs with
  | nil => intro q cur; simp [restQ]
  | cons c r ih =>
    intro q cur
    rw [restQ]
    split
    · have := ih false []
      simp only [List.length_cons]; omega
    · have := ih (if c = 34 then !q else q) (cur ++ [c])
      simp only [List.length_cons]; omega
theorem media_ends (x : ByteArray) (hs : x.size ≤ 549755813888) : ∃ r, Ev (fun k => spec_MediaRanges.f k x) r ∧ (r.2 = 2 ∨ (r.2 = 1 ∧ r.1 = rangesOf (ns x))) := by
  have hp := place_ends x 92 (by omega)
  have hr := idx_rng (ns x) 92
  have hl := ns_length x
  by_cases h92 : 92 ∈ ns x
  · have : ¬ idx (ns x) 92 = -1 := fun g => idx_none.1 g h92
    exact ⟨(([] : List ByteArray), 2), Ev.bind hp (Ev.if_true (by omega) (Ev.now _)), .inl rfl⟩
  · have hm : idx (ns x) 92 = -1 := idx_none.2 h92
    by_cases h0 : x.size = 0
    · refine ⟨(([] : List ByteArray), 1), Ev.bind hp (Ev.if_false (by omega) (Ev.if_true ((tl_nil x).2 h0) (Ev.now _))), .inr ⟨rfl, ?_⟩⟩
      have e : ns x = [] := List.length_eq_zero_iff.1 (by omega)
      rw [e]; rfl
    · obtain ⟨q', h⟩ := media_from x (by omega) x.size 0 0 false [] (by omega) (by omega) (by simp; omega)
      rw [Nat.sub_zero, List.take_zero, List.drop_zero, List.nil_append] at h
      obtain ⟨out, hout⟩ : ∃ out, (restQ false [] (ns x)).map trimT = out := ⟨_, rfl⟩
      have hol : out.length ≤ x.size + 1 := by rw [← hout, List.length_map, ← hl]; exact restQ_len _ _ _
      rw [hout] at h
      have hb := h _ (media_l1 out q' (by omega) out.length 0 (by omega))
      refine ⟨_, Ev.bind hp (Ev.if_false (by omega) (Ev.if_false (fun g => h0 ((tl_nil x).1 g)) hb)), ?_⟩
      rw [List.drop_zero]
      by_cases hany : out.any (fun s => decide (s.size = 0)) = true ∨ q' = true
      · rw [if_pos hany]; exact .inl rfl
      · rw [if_neg hany]
        refine .inr ⟨rfl, ?_⟩
        show out = rangesOf (ns x)
        unfold rangesOf
        rw [media_is _ _ (ns x) (Nat.le_refl _) (fun g => h0 (by rw [g] at hl; simpa using hl.symm)) (fun g => by
          have := of_decide_eq_false g
          exact idx_none.1 (Decidable.not_not.1 this)) h92 (fun p hp2 g => hany (.inl ?_)), List.map_map, ← hout]
        · rfl
        · rw [← hout, List.any_map, List.any_eq_true]
          exact ⟨p, hp2, decide_eq_true (by show (trimT p).size = 0; rw [trimT, g]; rfl)⟩
end Go.Proofs.Ytgmjaggkiifdjaa.Given
