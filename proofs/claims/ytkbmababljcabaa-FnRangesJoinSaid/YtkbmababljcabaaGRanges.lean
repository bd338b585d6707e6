/- forEachMediaRange with the closure of ZzRanges, MediaRanges: a header parted at the commas that stand in no quotes. -/
import Derived.Test.YtkbmababljcabaaGvRow
import Derived.Test.YtkbmababljcabaaLTrimL
import Derived.Test.YtkbmababljcabaaGIndexByte
import Derived.Laws.OwnMore
import Derived.WalkMore
set_option linter.unusedVariables false
namespace Go.Proofs.Ytkbmababljcabaa.Given
open Go.RowKit Go.Proofs.YtkbmababljcabaaW.PrintWords Go.Proofs.YtkbmababljcabaaW.PrintLast Go.Proofs.YtkbmababljcabaaW.PrintMore Go.Proofs.Ytkbmababljcabaa.Base Go.Proofs.Ytkbmababljcabaa.Gv Go.Proofs.Ytkbmababljcabaa.QA

/-- Block o holds a slice of texts of the call's own: these. -/
def OutRow (w : World) (o : Nat) (outs : List ByteArray) : Prop :=
  o < w.heap.size ∧ ∃ v, w.heap[o]? = some (.cells #[v] 29 (0, 0)) ∧ w.ownsRow (o + 1) 9 1 v outs.length (encs Value.string outs)
theorem OutRow.below {w w' : World} {o : Nat} {outs : List ByteArray} (h : OutRow w o outs) (hb : Below w.heap.size w w') : OutRow w' o outs := by
  obtain ⟨h1, v, hh, ho⟩ := h
  exact ⟨Nat.lt_of_lt_of_le h1 hb.size, v, by rw [hb.block o h1]; exact hh, pw_own_below ho hb⟩
theorem OutRow.drewN {w : World} {o : Nat} {outs : List ByteArray} (h : OutRow w o outs) (k : Nat) : OutRow (w.drewN k) o outs := h
set_option maxHeartbeats 2000000 in
set_option maxRecDepth 100000 in
theorem push_calls (w : World) (o : Nat) (outs : List ByteArray) (s : ByteArray) (h : OutRow w o outs) (hlen : (outs.length + 1) * 16 ≤ 140737488355328) :
    Calls Try.prog 68 #[.string s, .pointer (some ⟨o, 0, none⟩)] w fun e w' => e = .returned (.tuple #[]) ∧ OutRow w' o (outs ++ [s]) ∧ Below o w w' := by
  obtain ⟨h1, v, hh, ho⟩ := h
  have hinfo : (Try.prog.info? 9).map (fun i => (i.zero, i.size, i.bytes)) = some (some (.string ByteArray.empty), 1, 16) := by kernel_rfl
  obtain ⟨i0, hi, hz0, hz1, hz2⟩ := info_parts hinfo
  have c0 : w.cell? ⟨o, 0, none⟩ = some v := by rw [cell_of_row w o 0 _ _ (0, 0) hh]; rfl
  have HO := Lib.hid ho
  have HH := Lib.hid hh
  clear ho hh
  go_enter Try.func68, Try.ntmps68
  go_wp2_with (at_builtin; refine wpList_append_own _ rfl _ _ 29 rfl (o + 1) 9 i0 (.string ByteArray.empty) 1 16 Try.underlying29 hi hz0 hz1 hz2 rfl (by decide) _ _ _ rfl (HO.out.alloc _) ⟨w.heap.size, 0, none⟩ 1 1 [.string s] rfl rfl ?c1 ?c2 ?c3 ?c4 ?c5 ?_)
  case c1 =>
    intro j u hj
    match j, hj with
    | 0, hj => simp at hj; subst hj; simp [Addr.add]
  case c2 => intro u hu; simp at hu; subst hu; rfl
  case c3 => unfold maxLen; omega
  case c4 => exact hlen
  case c5 => simp; omega
  intro v' w2 hown' hgrow _
  have hvb : ∀ k, k ≤ o → some k ≠ v.ownBlock := fun k hk e => by have := own_base HO.out k e.symm; omega
  have hold : ∀ k, k ≤ o → w2.heap[k]? = w.heap[k]? := fun k hk => by
    rw [hgrow.block k (by simp; omega) (hvb k hk)]
    exact Below.heap_alloc _ _ _ (by omega)
  have hb2 : w2.heap[o]? = some (.cells #[v] 29 (0, 0)) := by rw [hold o (Nat.le_refl _)]; exact HH.out
  have d0 : w2.cell? ⟨o, 0, none⟩ = some v := by rw [cell_of_row w2 o 0 _ _ (0, 0) hb2]; rfl
  have f0 : w2.frozen? ⟨o, 0, none⟩ = false := frozen_of_row _ _ 0 _ _ hb2
  obtain ⟨g, cap, rfl⟩ : ∃ g cap, v' = .slice (some ⟨g, 0, none⟩) (outs.length + 1) cap := by
    rcases hown'.2 with ⟨_, h0⟩ | ⟨g, cap, cur, hv, _⟩
    · omega
    · exact ⟨g, cap, hv⟩
  have hbw2 : Below o w w2 := by
    refine ⟨hgrow.os, hgrow.tape, hgrow.output, ?_, fun k hk => hold k (by omega)⟩
    have := hgrow.size
    simp at this
    omega
  have HOW := Lib.hid hown'
  have HB2 := Lib.hid hb2
  have HW2 := Lib.hid hbw2
  clear hown' hb2 hbw2 hgrow hold hvb hi hz0 hz1 hz2 hinfo
  go_wp2
  go_end0
  refine ⟨rfl, ⟨by simp; have := HW2.out.size; omega, .slice (some ⟨g, 0, none⟩) (outs.length + 1) cap, ?_, ?_⟩, HW2.out.setCell (p := ⟨o, 0, none⟩) (Nat.le_refl _) _⟩
  · have := heap_setCell_same w2 o 0 _ 29 (.slice (some ⟨g, 0, none⟩) (outs.length + 1) cap) HB2.out
    simpa using this
  · have hm := own_move (w1 := w2.setCell ⟨o, 0, none⟩ (.slice (some ⟨g, 0, none⟩) (outs.length + 1) cap)) HOW.out (fun k hk => Below.heap_setCell _ _ _ _ (by have := own_base HOW.out k hk; show k ≠ o; omega))
    rw [encs_append, List.length_append]
    exact hm
theorem idx_rng (l : List Int) (c : Int) : -1 ≤ idx l c ∧ idx l c < l.length := by
  induction l with
  | nil => simp [idx]
  | cons x l ih =>
    unfold idx
    rw [List.length_cons]
    split
    · omega
    · split <;> omega
/-- How far a range reaches: to a comma that stands in no quotes (the code's own count of quotes and of what is escaped). -/
def scanQ : Nat → Bool → List Int → Nat
  | _, _, [] => 0
  | q, esc, c :: r =>
    if c = 44 then (if q % 2 = 0 then 0 else 1 + scanQ q esc r)
    else if c = 34 then 1 + scanQ (if esc = true then q else q + 1) esc r
    else if c = 92 then 1 + scanQ q (if q % 2 = 1 then !esc else esc) r
    else 1 + scanQ q esc r
theorem scanQ_le (xs : List Int) : ∀ q esc, scanQ q esc xs ≤ xs.length := by
  induction xs with
  | nil => intro q esc; simp [scanQ]
  | cons c r ih =>
    intro q esc
    simp only [scanQ, List.length_cons]
    have h1 := ih q esc
    have h2 := ih (if esc = true then q else q + 1) esc
    have h3 := ih q (if q % 2 = 1 then !esc else esc)
    split
    · split <;> omega
    · split
      · omega
      · split <;> omega
def cutAt (dq : Bool) (h : List Int) : Nat := if dq = true then scanQ 0 false h else if idx h 44 = -1 then h.length else (idx h 44).toNat
def rangesF (dq : Bool) : Nat → List Int → List (List Int)
  | 0, _ => []
  | f + 1, h => if h.length = 0 then [] else (ltrim h).take (cutAt dq (ltrim h)) :: (if (ltrim h).length ≤ cutAt dq (ltrim h) then [] else rangesF dq f ((ltrim h).drop (cutAt dq (ltrim h) + 1)))
theorem ltrim_le (xs : List Int) : (ltrim xs).length ≤ xs.length := by
  unfold ltrim
  induction xs with
  | nil => simp
  | cons x xs ih =>
    rw [List.dropWhile_cons]
    split
    · simp only [List.length_cons]; omega
    · exact Nat.le_refl _
def rangesOf (xs : List Int) : List ByteArray := (rangesF (decide (idx xs 34 ≠ -1)) xs.length xs).map strOfNums
theorem ltrim_mem {xs : List Int} {x : Int} (h : x ∈ ltrim xs) : x ∈ xs := by
  unfold ltrim at h
  exact List.dropWhile_sublist _ |>.mem h
theorem below_drewN_at {o n : Nat} {w w' : World} (h : Below o (w.drewN n) w') : Below o w w' := (pw_below_drewN (Below.refl o w) n).trans h
theorem tmod2 (q : Nat) : Int.tmod (q : Int) 2 = ((q % 2 : Nat) : Int) := by rw [Int.tmod_eq_emod_of_nonneg (by omega)]; omega
/-- One round: what stands behind the blanks, and what is told of the rest. -/
theorem range_step (dq : Bool) (f : Nat) (x : ByteArray) (outs RES : List ByteArray) (hx0 : 0 < x.size) (hx : x.size ≤ 4611686018427387904) (hE : outs ++ (rangesF dq (f + 1) (ns x)).map strOfNums = RES) :
    ∃ t : ByteArray, (∃ k, fiberutils_TrimLeft.f k x 32 = some t) ∧ t.size ≤ x.size ∧ (∀ n, n ≤ t.size → strOfNums ((ns t).take n) = t.extract 0 n) ∧
      outs ++ (t.extract 0 (cutAt dq (ns t)) :: (if (ns t).length ≤ cutAt dq (ns t) then [] else (rangesF dq f (ns (t.extract (cutAt dq (ns t) + 1) t.size))).map strOfNums)) = RES := by
  have hr : ∀ y ∈ ltrim (ns x), 0 ≤ y ∧ y ≤ 255 := fun y hy => ns_range x y (ltrim_mem hy)
  have hns : ns (strOfNums (ltrim (ns x))) = ltrim (ns x) := ns_strOfNums hr
  obtain ⟨t, ht⟩ : ∃ t, strOfNums (ltrim (ns x)) = t := ⟨_, rfl⟩
  have htr := trimL x hx
  rw [ht] at htr hns
  have hsz : t.size ≤ x.size := by
    have := ltrim_le (ns x)
    rw [← hns, ns_length, ns_length] at this
    exact this
  have htake : ∀ n, n ≤ t.size → strOfNums ((ns t).take n) = t.extract 0 n := fun n hn => ns_inj (by
    rw [ns_strOfNums (fun y hy => ns_range t y (List.mem_of_mem_take hy)), ns_extract, List.drop_zero, Nat.sub_zero])
  have hcut : cutAt dq (ns t) ≤ t.size := by
    unfold cutAt
    have h1 := scanQ_le (ns t) 0 false
    have h2 := idx_rng (ns t) 44
    rw [ns_length] at h1 h2
    split
    · exact h1
    · split
      · rw [ns_length]; exact Nat.le_refl _
      · omega
  have hdrop : ∀ n, ns (t.extract (n + 1) t.size) = (ns t).drop (n + 1) := fun n => by
    rw [ns_extract]
    refine List.take_of_length_le ?_
    rw [List.length_drop, ns_length]
    omega
  refine ⟨t, htr, hsz, htake, ?_⟩
  have hx1 : ¬ (ns x).length = 0 := by rw [ns_length]; omega
  rw [← hE, rangesF, if_neg hx1, ← hns, List.map_cons, htake _ hcut, hdrop]
  congr 2
  split <;> rfl
set_option maxHeartbeats 8000000 in
set_option maxRecDepth 100000 in
theorem forRanges_calls (a0 : ByteArray) (w : World) (o : Nat) (ho : OutRow w o []) (hbd : a0.size ≤ 1099511627776) :
    Calls Try.prog 67 #[.string a0, .func (.func 68) #[] #[.pointer (some ⟨o, 0, none⟩)]] w fun e w' => e = .returned (.tuple #[]) ∧ OutRow w' o (rangesOf (ns a0)) ∧ Below o w w' := by
  obtain ⟨dqi, hdqi⟩ : ∃ d, idx (ns a0) 34 = d := ⟨_, rfl⟩
  have hi34 := strings_IndexByte.is a0 34 (by decide) (by decide)
  rw [hdqi] at hi34
  have H34 := Lib.hid hi34
  obtain ⟨RES, hR⟩ : ∃ R, rangesOf (ns a0) = R := ⟨_, rfl⟩
  have HR : Hid ((rangesF (decide (dqi ≠ -1)) (ns a0).length (ns a0)).map strOfNums = RES) := Lib.hid (by rw [← hR, rangesOf, hdqi])
  rw [hR]
  have HO := Lib.hid ho
  clear hR hdqi hi34 ho
  by_cases hdq : dqi = -1
  · subst hdq
    have HR2 : Hid ((rangesF false (ns a0).length (ns a0)).map strOfNums = RES) := Lib.hid HR.out
    clear HR
    go_enter Try.func67, Try.ntmps67
    go_wp2_with (go_at_call 78; refine (strings_IndexByte.calls a0 34 (-1) _ H34.out).mono ?_; rintro e w' ⟨rfl, ⟨nd, rfl⟩⟩)
    go_loopw [0, 5, 6, 7] (fun hd _ _ _ wr => ∃ (x : ByteArray) (outs : List ByteArray) (f : Nat), hd = .string x ∧ Hid (x.size ≤ f) ∧ x.size + outs.length ≤ a0.size ∧ Hid (OutRow wr o outs) ∧ Hid (Below o w wr) ∧ Hid (outs ++ (rangesF false f (ns x)).map strOfNums = RES)) (fun hd _ _ _ _ => match hd with | .string x => x.size | _ => 0)
    case atStart => exact ⟨a0, [], a0.size, rfl, Lib.hid (Nat.le_refl _), by simp, Lib.hid (HO.out.drewN nd), Lib.hid (pw_below_drewN (Below.refl _ _) nd), Lib.hid (by rw [List.nil_append, ← ns_length]; exact HR2.out)⟩
    case round =>
      obtain ⟨x, outs, f, rfl, HF, hcount, HOR, HBL, HE⟩ := hrel
      by_cases hx0 : 0 < x.size
      · obtain ⟨f, rfl⟩ : ∃ g, f = g + 1 := ⟨f - 1, by have := HF.out; omega⟩
        obtain ⟨t, ht, hts, hps, hstep⟩ := range_step false f x outs RES hx0 (by omega) HE.out
        obtain ⟨ktr, htr⟩ := ht
        have HTR := Lib.hid htr
        have HST := Lib.hid hstep
        have HTS := Lib.hid hts
        obtain ⟨j, hj⟩ : ∃ j, idx (ns t) 44 = j := ⟨_, rfl⟩
        have hjr := idx_rng (ns t) 44
        rw [hj, ns_length] at hjr
        have hi44 := strings_IndexByte.is t 44 (by decide) (by decide)
        rw [hj] at hi44
        have H44 := Lib.hid hi44
        have HJ := Lib.hid hj
        have HPU := Lib.hid (fun (W : World) (h : OutRow W o outs) (s : ByteArray) => push_calls W o outs s h (by omega))
        clear htr hstep hi44 hj HE hps
        by_cases hjn : j = -1
        · subst hjn
          have hfin : Hid (RES = outs ++ [t.extract 0 t.size]) := Lib.hid (by
            have h1 := HST.out
            have hc : cutAt false (ns t) = t.size := by unfold cutAt; rw [if_neg (by decide), HJ.out, if_pos rfl, ns_length]
            rw [hc, ns_length, if_pos (Nat.le_refl _)] at h1
            rw [← h1])
          clear HST
          go_wp2_with (first
            | (go_at_call 79; refine (fiberutils_TrimLeft.calls ktr x 32 t _ HTR.out).mono ?_; rintro e w' ⟨rfl, ⟨n1, rfl⟩⟩)
            | (go_at_call 78; refine (strings_IndexByte.calls t 44 (-1) _ H44.out).mono ?_; rintro e w' ⟨rfl, ⟨n2, rfl⟩⟩)
            | (go_at_call 68; refine (HPU.out _ (HOR.out.drewN _) _).mono ?_; rintro e w' ⟨rfl, g1, g2⟩))
          refine bodyPost_ret (results_none rfl _ _ _) rfl ?_
          refine ⟨rfl, ?_, HBL.out.trans (below_drewN_at g2)⟩
          have e1 : t.extract 0 t.size = t := by simp
          rw [hfin.out, e1]
          exact g1
        · obtain ⟨j, rfl⟩ := Int.eq_ofNat_of_zero_le (show 0 ≤ j by omega)
          have hjt : j < t.size := by omega
          have hgo : Hid ((outs ++ [t.extract 0 j]) ++ (rangesF false f (ns (t.extract (j + 1) t.size))).map strOfNums = RES) := Lib.hid (by
            have h1 := HST.out
            have hc : cutAt false (ns t) = j := by unfold cutAt; rw [if_neg (by decide), HJ.out, if_neg (by omega), Int.toNat_natCast]
            rw [hc, ns_length, if_neg (by omega)] at h1
            rw [← h1]
            simp)
          have hxs : Hid ((t.extract (j + 1) t.size).size ≤ f ∧ (t.extract (j + 1) t.size).size + (outs ++ [t.extract 0 j]).length ≤ a0.size ∧ (t.extract (j + 1) t.size).size < x.size) := Lib.hid (by
            have := HF.out
            have h2 := HTS.out
            rw [ByteArray.size_extract, List.length_append, List.length_singleton]
            omega)
          clear HST hjn
          go_wp2_with (first
            | (go_at_call 79; refine (fiberutils_TrimLeft.calls ktr x 32 t _ HTR.out).mono ?_; rintro e w' ⟨rfl, ⟨n1, rfl⟩⟩)
            | (go_at_call 78; refine (strings_IndexByte.calls t 44 (j : Int) _ H44.out).mono ?_; rintro e w' ⟨rfl, ⟨n2, rfl⟩⟩)
            | (go_at_call 68; refine (HPU.out _ (HOR.out.drewN _) _).mono ?_; rintro e w' ⟨rfl, g1, g2⟩))
          go_roundw
          case rel => exact ⟨t.extract (j + 1) t.size, outs ++ [t.extract 0 j], f, by go_num, Lib.hid hxs.out.1, hxs.out.2.1, Lib.hid g1, Lib.hid (HBL.out.trans (below_drewN_at g2)), hgo⟩
          case measure => exact hxs.out.2.2
      · have hx1 : x.size = 0 := by omega
        have hfin : Hid (RES = outs) := Lib.hid (by
          have h1 := HE.out
          have e1 : rangesF false f (ns x) = [] := by
            cases f with
            | zero => rfl
            | succ f => rw [rangesF, if_pos (by rw [ns_length]; exact hx1)]
          rw [e1] at h1
          rw [← h1]
          simp)
        go_wp2
        go_end0
        exact ⟨rfl, by rw [hfin.out]; exact HOR.out, HBL.out⟩
  · have HR2 : Hid ((rangesF true (ns a0).length (ns a0)).map strOfNums = RES) := Lib.hid (by have := HR.out; rw [decide_eq_true hdq] at this; exact this)
    have hdqb : (dqi != -1) = true := bne_iff_ne.2 hdq
    clear HR hdq
    go_enter Try.func67, Try.ntmps67
    go_wp2_with (go_at_call 78; refine (strings_IndexByte.calls a0 34 dqi _ H34.out).mono ?_; rintro e w' ⟨rfl, ⟨nd, rfl⟩⟩)
    clear hdqb
    go_loopw [0, 5, 6, 7] (fun hd _ _ _ wr => ∃ (x : ByteArray) (outs : List ByteArray) (f : Nat), hd = .string x ∧ Hid (x.size ≤ f) ∧ x.size + outs.length ≤ a0.size ∧ Hid (OutRow wr o outs) ∧ Hid (Below o w wr) ∧ Hid (outs ++ (rangesF true f (ns x)).map strOfNums = RES)) (fun hd _ _ _ _ => match hd with | .string x => x.size | _ => 0)
    case atStart => exact ⟨a0, [], a0.size, rfl, Lib.hid (Nat.le_refl _), by simp, Lib.hid (HO.out.drewN nd), Lib.hid (pw_below_drewN (Below.refl _ _) nd), Lib.hid (by rw [List.nil_append, ← ns_length]; exact HR2.out)⟩
    case round =>
      obtain ⟨x, outs, f, rfl, HF, hcount, HOR, HBL, HE⟩ := hrel
      by_cases hx0 : 0 < x.size
      · obtain ⟨f, rfl⟩ : ∃ g, f = g + 1 := ⟨f - 1, by have := HF.out; omega⟩
        obtain ⟨t, ht, hts, hps, hstep⟩ := range_step true f x outs RES hx0 (by omega) HE.out
        obtain ⟨ktr, htr⟩ := ht
        have HTR := Lib.hid htr
        have HST := Lib.hid hstep
        have HTS := Lib.hid hts
        have htsz : t.size ≤ 1099511627776 := by omega
        have HPU := Lib.hid (fun (W : World) (h : OutRow W o outs) (s : ByteArray) => push_calls W o outs s h (by omega))
        obtain ⟨N, hN⟩ : ∃ N, scanQ 0 false (ns t) = N := ⟨_, rfl⟩
        have hNle : N ≤ t.size := by rw [← hN, ← ns_length]; exact scanQ_le _ _ _
        have HN := Lib.hid hN
        clear htr hstep hN HE hps hts
        go_wp2_with (go_at_call 79; refine (fiberutils_TrimLeft.calls ktr x 32 t _ HTR.out).mono ?_; rintro e w' ⟨rfl, ⟨n1, rfl⟩⟩)
        apply wp_scope_straight
        apply wp_seq_k
        intro KL hKL
        apply wp_label
        simp only [Exit.then]
        apply hKL
        apply wp_block
        go_loopw [5, 6, 7] (fun nn qq ee wi => ∃ (k q : Nat) (esc : Bool), wi = wr.drewN n1 ∧ nn = .int .i64 k ∧ qq = .int .i64 q ∧ ee = .bool esc ∧ k ≤ t.size ∧ q ≤ k ∧ Hid (k + scanQ q esc ((ns t).drop k) = N)) (fun nn _ _ _ => t.size - (intOf nn).toNat)
        case atStart => exact ⟨0, 0, false, rfl, rfl, rfl, rfl, by omega, by omega, Lib.hid (by rw [List.drop_zero, Nat.zero_add]; exact HN.out)⟩
        case round =>
          obtain ⟨k, q, esc, rfl, rfl, rfl, rfl, hk, hq, HS⟩ := hrel
          by_cases hlt : k < t.size
          · have hl : k < (ns t).length := by rw [ns_length]; exact hlt
            have hdr : (ns t).drop k = (ns t).getD k 0 :: (ns t).drop (k + 1) := by
              rw [List.drop_eq_getElem_cons hl, List.getD_eq_getElem?_getD, List.getElem?_eq_getElem hl]; rfl
            obtain ⟨c, hc⟩ : ∃ c, (ns t).getD k 0 = c := ⟨_, rfl⟩
            have hbt := Lib.hid ((bt_ns t k).trans hc)
            rw [hc] at hdr
            have HD : Hid (k + scanQ q esc (c :: (ns t).drop (k + 1)) = N) := Lib.hid (by rw [← hdr]; exact HS.out)
            have hqm := tmod2 q
            clear hc hdr HS hl
            by_cases h44 : c = 44
            · subst h44
              by_cases hev : q % 2 = 0
              · have hkN : k = N := by have := HD.out; unfold scanQ at this; rw [if_pos rfl, if_pos hev] at this; omega
                have hq2 : Int.tmod (q : Int) 2 = 0 := by rw [hqm, hev]; rfl
                have HKN := Lib.hid hkN
                have hgo : Hid ((outs ++ [t.extract 0 k]) ++ (rangesF true f (ns (t.extract (k + 1) t.size))).map strOfNums = RES) := Lib.hid (by
                  have h1 := HST.out
                  have hcu : cutAt true (ns t) = k := by unfold cutAt; rw [if_pos rfl, HN.out, hkN]
                  rw [hcu, ns_length, if_neg (by omega)] at h1
                  rw [← h1]
                  simp)
                have hxs : Hid ((t.extract (k + 1) t.size).size ≤ f ∧ (t.extract (k + 1) t.size).size + (outs ++ [t.extract 0 k]).length ≤ a0.size ∧ (t.extract (k + 1) t.size).size < x.size) := Lib.hid (by
                  have := HF.out
                  have h2 := HTS.out
                  rw [ByteArray.size_extract, List.length_append, List.length_singleton]
                  omega)
                clear hev hqm hkN HST
                go_wp2_with ((with_reducible refine gate_dst (N := 23) rfl ?_); refine wpList_index_tab rfl 9 (.tmp 21) (.tmp 22) rfl t (k : Int) .i64 rfl rfl Try.underlying9 (by omega) (by omega) 44 hbt.out ?_)
                simp only [Exit.noGoto_normal, Exit.then]
                go_at_K
                go_wp2_with (go_at_call 68; refine (HPU.out _ (HOR.out.drewN _) _).mono ?_; rintro e w' ⟨rfl, g1, g2⟩)
                go_roundw
                case rel => exact ⟨t.extract (k + 1) t.size, outs ++ [t.extract 0 k], f, by go_num, Lib.hid hxs.out.1, hxs.out.2.1, Lib.hid g1, Lib.hid (HBL.out.trans (below_drewN_at g2)), hgo⟩
                case measure => exact hxs.out.2.2
              · have hq2 : Int.tmod (q : Int) 2 = 1 := by rw [hqm]; omega
                have HS1 : Hid (k + 1 + scanQ q esc ((ns t).drop (k + 1)) = N) := Lib.hid (by have := HD.out; unfold scanQ at this; rw [if_pos rfl, if_neg hev] at this; omega)
                clear hev hqm HD
                go_wp2_with ((with_reducible refine gate_dst (N := 23) rfl ?_); refine wpList_index_tab rfl 9 (.tmp 21) (.tmp 22) rfl t (k : Int) .i64 rfl rfl Try.underlying9 (by omega) (by omega) 44 hbt.out ?_)
                go_roundw
                case rel => exact ⟨k + 1, q, esc, by first | rfl | trivial, by go_num, by go_num, by first | rfl | trivial, by omega, by omega, HS1⟩
                case measure => simp [intOf]; omega
            · by_cases h34 : c = 34
              · subst h34
                cases esc with
                | true =>
                  have HS1 : Hid (k + 1 + scanQ q true ((ns t).drop (k + 1)) = N) := Lib.hid (by have := HD.out; unfold scanQ at this; rw [if_neg (by decide), if_pos rfl, if_pos rfl] at this; omega)
                  clear hqm HD h44
                  go_wp2_with ((with_reducible refine gate_dst (N := 23) rfl ?_); refine wpList_index_tab rfl 9 (.tmp 21) (.tmp 22) rfl t (k : Int) .i64 rfl rfl Try.underlying9 (by omega) (by omega) 34 hbt.out ?_)
                  go_roundw
                  case rel => exact ⟨k + 1, q, true, by first | rfl | trivial, by go_num, by go_num, by first | rfl | trivial, by omega, by omega, HS1⟩
                  case measure => simp [intOf]; omega
                | false =>
                  have HS1 : Hid (k + 1 + scanQ (q + 1) false ((ns t).drop (k + 1)) = N) := Lib.hid (by have := HD.out; unfold scanQ at this; rw [if_neg (by decide), if_pos rfl, if_neg (by decide)] at this; omega)
                  clear hqm HD h44
                  go_wp2_with ((with_reducible refine gate_dst (N := 23) rfl ?_); refine wpList_index_tab rfl 9 (.tmp 21) (.tmp 22) rfl t (k : Int) .i64 rfl rfl Try.underlying9 (by omega) (by omega) 34 hbt.out ?_)
                  go_roundw
                  case rel => exact ⟨k + 1, q + 1, false, by first | rfl | trivial, by go_num, by go_num, by first | rfl | trivial, by omega, by omega, HS1⟩
                  case measure => simp [intOf]; omega
              · by_cases h92 : c = 92
                · subst h92
                  by_cases hod : q % 2 = 1
                  · have hq2 : Int.tmod (q : Int) 2 = 1 := by rw [hqm, hod]; rfl
                    have HS1 : Hid (k + 1 + scanQ q (!esc) ((ns t).drop (k + 1)) = N) := Lib.hid (by have := HD.out; unfold scanQ at this; rw [if_neg (by decide), if_neg (by decide), if_pos rfl, if_pos hod] at this; omega)
                    clear hqm HD h44 h34 hod
                    go_wp2_with ((with_reducible refine gate_dst (N := 23) rfl ?_); refine wpList_index_tab rfl 9 (.tmp 21) (.tmp 22) rfl t (k : Int) .i64 rfl rfl Try.underlying9 (by omega) (by omega) 92 hbt.out ?_)
                    go_roundw
                    case rel => exact ⟨k + 1, q, !esc, by first | rfl | trivial, by go_num, by go_num, by first | rfl | trivial, by omega, by omega, HS1⟩
                    case measure => simp [intOf]; omega
                  · have hq2 : Int.tmod (q : Int) 2 = 0 := by rw [hqm]; omega
                    have HS1 : Hid (k + 1 + scanQ q esc ((ns t).drop (k + 1)) = N) := Lib.hid (by have := HD.out; unfold scanQ at this; rw [if_neg (by decide), if_neg (by decide), if_pos rfl, if_neg hod] at this; omega)
                    clear hqm HD h44 h34 hod
                    go_wp2_with ((with_reducible refine gate_dst (N := 23) rfl ?_); refine wpList_index_tab rfl 9 (.tmp 21) (.tmp 22) rfl t (k : Int) .i64 rfl rfl Try.underlying9 (by omega) (by omega) 92 hbt.out ?_)
                    go_roundw
                    case rel => exact ⟨k + 1, q, esc, by first | rfl | trivial, by go_num, by go_num, by first | rfl | trivial, by omega, by omega, HS1⟩
                    case measure => simp [intOf]; omega
                · have HS1 : Hid (k + 1 + scanQ q esc ((ns t).drop (k + 1)) = N) := Lib.hid (by have := HD.out; unfold scanQ at this; rw [if_neg h44, if_neg h34, if_neg h92] at this; omega)
                  have e44 : (c == 44) = false := beq_eq_false_iff_ne.2 h44
                  have e34 : (c == 34) = false := beq_eq_false_iff_ne.2 h34
                  have e92 : (c == 92) = false := beq_eq_false_iff_ne.2 h92
                  clear hqm HD h44 h34 h92
                  go_wp2_with ((with_reducible refine gate_dst (N := 23) rfl ?_); refine wpList_index_tab rfl 9 (.tmp 21) (.tmp 22) rfl t (k : Int) .i64 rfl rfl Try.underlying9 (by omega) (by omega) c hbt.out ?_)
                  go_roundw
                  case rel => exact ⟨k + 1, q, esc, by first | rfl | trivial, by go_num, by go_num, by first | rfl | trivial, by omega, by omega, HS1⟩
                  case measure => simp [intOf]; omega
          · obtain rfl : k = t.size := by omega
            have hfin : Hid (RES = outs ++ [t]) := Lib.hid (by
              have h1 := HST.out
              have hkN := HS.out
              rw [List.drop_eq_nil_of_le (by rw [ns_length]; exact Nat.le_refl _), scanQ] at hkN
              have hcu : cutAt true (ns t) = t.size := by unfold cutAt; rw [if_pos rfl, HN.out]; omega
              rw [hcu, ns_length, if_pos (Nat.le_refl _)] at h1
              rw [← h1]
              simp)
            clear HST HS
            go_wp2
            simp only [Exit.noGoto_normal, Exit.then]
            go_at_K
            go_wp2_with (go_at_call 68; refine (HPU.out _ (HOR.out.drewN _) _).mono ?_; rintro e w' ⟨rfl, g1, g2⟩)
            refine bodyPost_ret (results_none rfl _ _ _) rfl ?_
            refine ⟨rfl, ?_, HBL.out.trans (below_drewN_at g2)⟩
            rw [hfin.out]
            exact g1
      · have hx1 : x.size = 0 := by omega
        have hfin : Hid (RES = outs) := Lib.hid (by
          have h1 := HE.out
          have e1 : rangesF true f (ns x) = [] := by
            cases f with
            | zero => rfl
            | succ f => rw [rangesF, if_pos (by rw [ns_length]; exact hx1)]
          rw [e1] at h1
          rw [← h1]
          simp)
        go_wp2
        go_end0
        exact ⟨rfl, by rw [hfin.out]; exact HOR.out, HBL.out⟩
set_option maxHeartbeats 2000000 in
theorem zzRanges_calls (a0 : ByteArray) (w : World) (hbd : a0.size ≤ 1099511627776) :
    Calls Try.prog 45 #[.string a0] w fun e w' => ∃ v, e = .returned v ∧ Kd.R Kd.string 9 w' w.heap.size (fun _ => True) v (rangesOf (ns a0)) ∧ Below w.heap.size w w' := by
  have hmf : ∀ (fn : Fn) (first cap : Array Value) (w : World), (Instr.makeFunc fn first cap).run Try.prog w = .ok (.func fn first cap) w := fun _ _ _ _ => rfl
  have hout : OutRow (w.alloc (.cells #[.slice none 0 0] 29)) w.heap.size [] := ⟨by simp, .slice none 0 0, heap_alloc_new w _, own_nil _ _ _ _⟩
  have hc := Lib.hid (forRanges_calls a0 _ _ hout hbd)
  have hb0 : Hid (Below w.heap.size w (w.alloc (.cells #[.slice none 0 0] 29))) := Lib.hid ((Below.refl _ _).alloc (Nat.le_refl _) _)
  clear hout
  go_enter Try.func45, Try.ntmps45
  go_wp2_with (
    go_at_call 67
    refine hc.out.mono ?_
    rintro e w' ⟨rfl, hr, hb⟩
    obtain ⟨hlt, v, hh, ho⟩ := hr
    have c0 : w'.cell? ⟨w.heap.size, 0, none⟩ = some v := by rw [cell_of_row w' _ 0 _ _ (0, 0) hh]; rfl
    have HR := Lib.hid (Kd.R_of_own (h1 := fun _ => rfl) (ok := fun _ => True) (own_weaken ho (Nat.le_succ _)) (fun _ _ => trivial))
    have HB := Lib.hid hb
    clear hh ho hb hlt)
  go_ret
  exact ⟨_, rfl, HR.out, hb0.out.trans HB.out⟩
def impl_MediaRanges.f (a0 : ByteArray) : Option (List ByteArray) := if a0.size ≤ 1099511627776 then some (rangesOf (ns a0)) else none
theorem impl_MediaRanges.calls (a0 : ByteArray) (r1 : List ByteArray) (w : World) (h : impl_MediaRanges.f a0 = some r1) :
    Calls Try.prog 18 #[.string a0] w fun e w' => ∃ v0_ : Value, e = .returned v0_ ∧ Kd.R Kd.string 9 w' w.heap.size (fun _ => True) v0_ r1 ∧ Below w.heap.size w w' := by
  unfold impl_MediaRanges.f at h
  by_cases hbd : a0.size ≤ 1099511627776
  · rw [if_pos hbd] at h
    obtain rfl := Option.some.inj h
    go_enter Try.func18, Try.ntmps18
    go_wp2_with (go_at_call 45; refine (zzRanges_calls a0 _ hbd).mono ?_; rintro e w' ⟨v, rfl, hr, hb⟩)
    go_ret
    exact ⟨_, rfl, hr, hb⟩
  · rw [if_neg hbd] at h
    cases h
end Go.Proofs.Ytkbmababljcabaa.Given
