/- paramsMatch itself: a specification's parameters gathered, each looked for among an offer's. -/
import Derived.Test.YtkbmababljcabaaGHit
set_option linter.unusedVariables false
namespace Go.Proofs.Ytkbmababljcabaa.Given
open Go.RowKit Go.Proofs.YtkbmababljcabaaW.PrintWords Go.Proofs.YtkbmababljcabaaW.PrintLast Go.Proofs.YtkbmababljcabaaW.PrintMore Go.Proofs.Ytkbmababljcabaa.Base Go.Proofs.Ytkbmababljcabaa.Gv Go.Proofs.Ytkbmababljcabaa.QA

theorem below_weaken_m {B C : Nat} {a b : World} (h : B ≤ C) (k : Below C a b) : Below B a b := ⟨k.os, k.tape, k.output, k.size, fun i hi => k.block i (by omega)⟩
set_option maxHeartbeats 4000000 in
set_option maxRecDepth 100000 in
theorem match_calls (a0 a1 : ByteArray) (w : World) (h0 : a0.size ≤ 1099511627776) (h1 : a1.size ≤ 1099511627776) :
    Calls Try.prog 74 #[.string a0, .string a1] w fun e w' => e = .returned (.bool (matchOf a0 a1)) ∧ Below w.heap.size w w' := by
  have hem : a0.toList.isEmpty = (ns a0).isEmpty := by
    have := toList_ne_nil a0
    rw [Go.Proofs.Ytkbmababljcabaa.PrX.prx_ne] at this
    exact Bool.not_inj this
  by_cases z : a0.size = 0
  · have hz : matchOf a0 a1 = true := by unfold matchOf; rw [if_pos z]
    have zb : a0.toList.isEmpty = true := by rw [hem, List.eq_nil_of_length_eq_zero (show (ns a0).length = 0 by rw [ns_length]; exact z)]; rfl
    have zc : (a0.toList == ([] : List UInt8)) = true := by simpa using zb
    rw [hz]
    clear hz hem
    go_enter Try.func74, Try.ntmps74
    go_wp2
    go_ret
    exact ⟨rfl, Below.refl _ _⟩
  · have hz : matchOf a0 a1 = (specOf a0).all (hitOf a1) := by unfold matchOf; rw [if_neg z]
    have zb : a0.toList.isEmpty = false := by
      rw [hem]
      cases hx : ns a0 with
      | nil => have := ns_length a0; rw [hx] at this; exact absurd this.symm z
      | cons x l => rfl
    have zc : (a0.toList == ([] : List UInt8)) = false := by simpa using zb
    rw [hz]
    have hinfo : (Try.prog.info? 112).map (fun i => (i.zero, i.size, i.bytes)) = some (some (.agg #[.string ByteArray.empty, .string ByteArray.empty]), 2, 32) := by kernel_rfl
    obtain ⟨i0, hi, hz0, hz1, hz2⟩ := info_parts hinfo
    obtain ⟨W0, hmk, hown0, hgrow0⟩ := run_make_own (P := Try.prog) w w.heap.size 111 112 i0 (.agg #[.string ByteArray.empty, .string ByteArray.empty]) 2 Try.underlying111 hi hz0 hz1 .i64 .i64 2 (by rw [hz2]; decide) (by decide) (Nat.le_refl _)
    have hmk2 : (Instr.makeSlice 111 (.int .i64 0) (.int .i64 2)).run Try.prog w = .ok (.slice (some ⟨w.heap.size, 0, none⟩) 0 2) W0 := hmk
    clear hmk
    have hgl : w.heap.size < W0.heap.size := own_lt hown0 _ rfl
    have hb0 : Below w.heap.size w W0 := ⟨hgrow0.os, hgrow0.tape, hgrow0.output, by omega, fun k hk => hgrow0.block k hk (by simp)⟩
    have HW0 := Lib.hid hown0
    have HB0 := Lib.hid hb0
    obtain ⟨sp, hsp⟩ : ∃ sp, specOf a0 = sp := ⟨_, rfl⟩
    rw [hsp]
    have HB1 : Hid (Below w.heap.size w (W0.alloc (.cells #[.slice (some ⟨w.heap.size, 0, none⟩) 0 2] 111))) := Lib.hid (hb0.alloc (by omega) _)
    have hin0 : SpRow (W0.alloc (.cells #[.slice (some ⟨w.heap.size, 0, none⟩) 0 2] 111)) w.heap.size W0.heap.size [] :=
      ⟨by omega, w.heap.size, 2, heap_alloc_new W0 _, by omega, hown0.alloc _⟩
    have hfe := forEach_calls 85 #[.pointer (some ⟨W0.heap.size, 0, none⟩)] specStep (fun W i sp => SpRow W w.heap.size W0.heap.size sp ∧ sp.length ≤ i ∧ ∀ q ∈ sp, q.1.size ≤ 1099511627776 ∧ q.2.size ≤ 1099511627776) w.heap.size a0 h0
      (fun W i s n hI => ⟨hI.1.drewN n, hI.2⟩)
      (fun W i s p v hI hi hp hv => by
        refine (put_calls W w.heap.size W0.heap.size s p v hI.1 (by have := hI.2.1; omega) hp (fun q hq => (hI.2.2 q hq).1)).mono ?_
        rintro e w' ⟨rfl, g1, g2⟩
        refine ⟨rfl, ⟨g1, ?_, ?_⟩, g2⟩
        · have := hI.2.1
          unfold specStep
          split
          · simp; omega
          · split
            · simp; omega
            · simp; omega
        · unfold specStep
          split
          · exact hI.2.2
          · split
            · rename_i hlt
              intro q hq
              rcases List.mem_or_eq_of_mem_set hq with hq | rfl
              · exact hI.2.2 q hq
              · refine ⟨?_, hv⟩
                rw [List.getD_eq_getElem?_getD, List.getElem?_eq_getElem hlt]
                exact (hI.2.2 _ (List.getElem_mem hlt)).1
            · intro q hq
              rcases List.mem_append.1 hq with hq | hq
              · exact hI.2.2 q hq
              · rw [List.mem_singleton.1 hq]; exact ⟨hp, hv⟩)
      (fun args W => by first | rfl | kernel_rfl) [] _ ⟨hin0, Nat.le_refl _, fun q hq => by cases hq⟩
    have HFE : Hid (Calls Try.prog 71 #[.string a0, .func (.func 85) #[] #[.pointer (some ⟨W0.heap.size, 0, none⟩)]] (W0.alloc (.cells #[.slice (some ⟨w.heap.size, 0, none⟩) 0 2] 111)) fun e w' => e = .returned (.tuple #[]) ∧ (SpRow w' w.heap.size W0.heap.size sp ∧ (∃ i, sp.length ≤ i) ∧ ∀ q ∈ sp, q.1.size ≤ 1099511627776 ∧ q.2.size ≤ 1099511627776) ∧ Below w.heap.size w w') := Lib.hid (hfe.mono (by
      rintro e w' ⟨rfl, ⟨i, g1, g2, g3⟩, g4⟩
      rw [show foldP specStep a0.size [] (ns a0) = sp from hsp] at g1 g2 g3
      exact ⟨rfl, ⟨g1, ⟨i, g2⟩, g3⟩, HB1.out.trans g4⟩))
    clear hfe hin0 hsp
    have hmf : ∀ (fn : Fn) (first cap : Array Value) (w : World), (Instr.makeFunc fn first cap).run Try.prog w = .ok (.func fn first cap) w := fun _ _ _ _ => rfl
    clear hz hem zb hown0 hb0 hgrow0 hi hz0 hz1 hz2 hinfo
    go_enter Try.func74, Try.ntmps74
    go_upto_region 5 with (go_at_call 71; refine HFE.out.mono ?_; rintro e w1 ⟨rfl, ⟨g1, g2, g3⟩, g4⟩)
    have hlen : sp.length ≤ 9223372036854775807 := by
      obtain ⟨_, g, cap, _, _, ho⟩ := g1
      rcases ho.2 with ⟨e, _⟩ | ⟨_, _, _, e, _, _, hle, hm, _⟩
      · cases e
      · cases e
        have : maxLen ≤ 9223372036854775807 := by decide
        omega
    obtain ⟨ab, hab⟩ : ∃ ab, w1.heap.size = ab := ⟨_, rfl⟩
    have hol : W0.heap.size < ab := by
      obtain ⟨_, g, cap, hh, _, _⟩ := g1
      rw [← hab]
      exact (Array.getElem?_eq_some_iff.1 hh).1
    have hg1 := g1.below ((Below.refl w1.heap.size w1).alloc (Nat.le_refl _) (.cells #[.bool true] 4))
    have hal := heap_alloc_new w1 (.cells #[.bool true] 4)
    have hbl := g4.alloc (by have := g4.size; omega) (.cells #[.bool true] 4)
    rw [hab] at hal
    have HG3 := Lib.hid g3
    clear g1 g2 g3 g4
    go_upto_region 6 with fail
    obtain ⟨W2, hW2⟩ : ∃ W, w1.alloc (.cells #[.bool true] 4) = W := ⟨_, rfl⟩
    rw [hW2] at hg1 hal hbl ⊢
    have HS2 := Lib.hid hg1
    have HA2 : Hid (W2.heap[ab]? = some (.cells #[.bool true] 4 (0, 0))) := Lib.hid hal
    have HB2 := Lib.hid hbl
    obtain ⟨_, g, cap, hh, _, _⟩ := hg1
    have c0 : W2.cell? ⟨W0.heap.size, 0, none⟩ = some (.slice (some ⟨g, 0, none⟩) sp.length cap) := by rw [cell_of_row W2 _ 0 _ _ (0, 0) hh]; rfl
    clear hh hal hbl hW2 hab HFE hmk2
    go_wp2
    clear c0
    go_loopw [4, 7, 8, 17] (fun s4 _ _ iv wi => ∃ k : Nat, s4 = .bool false ∧ iv = .int .i64 k ∧ k ≤ sp.length ∧ Hid (SpRow wi w.heap.size W0.heap.size sp) ∧ Hid (wi.heap[ab]? = some (.cells #[.bool true] 4 (0, 0))) ∧ Hid (Below w.heap.size w wi) ∧ Hid (∀ j (hj : j < sp.length), j < k → hitOf a1 (sp[j]) = true)) (fun _ _ _ iv _ => sp.length - (intOf iv).toNat)
    case atStart => exact ⟨0, rfl, rfl, by omega, HS2, HA2, HB2, Lib.hid (fun j hj h => absurd h (by omega))⟩
    case round =>
      obtain ⟨k, rfl, rfl, hkl, HS, HA, HB, HALL⟩ := hrel
      by_cases hk : k < sp.length
      · have hqs := HG3.out _ (List.getElem_mem hk)
        have hal : ab < wr.heap.size := (Array.getElem?_eq_some_iff.1 HA.out).1
        obtain ⟨b, hb⟩ : ∃ b, wr.heap.size = b := ⟨_, rfl⟩
        obtain ⟨Wb, hWb⟩ : ∃ W, (wr.alloc (.cells #[.int .i64 k] 3)).alloc (.cells #[.bool false] 4) = W := ⟨_, rfl⟩
        have hbl : Below wr.heap.size wr Wb := by
          rw [← hWb]
          exact ((Below.refl _ _).alloc (Nat.le_refl _) _).alloc (by simp) _
        have hin : HitRow Wb w.heap.size W0.heap.size b (b + 1) ab sp k (false, true) := by
          refine ⟨HS.out.below hbl, ?_, ?_, ?_⟩
          · rw [← hWb, ← hb]
            exact blk_alloc (heap_alloc_new wr _) _
          · rw [← hWb, ← hb]
            have := heap_alloc_new (wr.alloc (.cells #[.int .i64 k] 3)) (.cells #[.bool false] 4)
            simpa using this
          · rw [hbl.block ab hal]
            exact HA.out
        obtain ⟨R, hR⟩ : ∃ R, foldP (hitStep (sp[k])) a1.size (false, true) (ns a1) = R := ⟨_, rfl⟩
        have hhit : Hid (hitOf a1 (sp[k]) = (R.1 && R.2)) := Lib.hid (by unfold hitOf; rw [hR])
        have hfe := forEach_calls 87 #[.pointer (some ⟨W0.heap.size, 0, none⟩), .pointer (some ⟨b, 0, none⟩), .pointer (some ⟨b + 1, 0, none⟩), .pointer (some ⟨ab, 0, none⟩)] (hitStep (sp[k])) (fun W i s => HitRow W w.heap.size W0.heap.size b (b + 1) ab sp k s) ab a1 h1
          (fun W i s n hI => hI.drewN n)
          (fun W i s p v hI hi hp hv => hit_calls W w.heap.size W0.heap.size b (b + 1) ab sp k hk s p v hI (by omega) (by omega) hp hv hqs hlen)
          (fun args W => by first | rfl | kernel_rfl) (false, true) Wb hin
        rw [hR] at hfe
        have HFE : Hid (Calls Try.prog 71 #[.string a1, .func (.func 87) #[] #[.pointer (some ⟨W0.heap.size, 0, none⟩), .pointer (some ⟨b, 0, none⟩), .pointer (some ⟨b + 1, 0, none⟩), .pointer (some ⟨ab, 0, none⟩)]] Wb fun e w' => e = .returned (.tuple #[]) ∧ HitRow w' w.heap.size W0.heap.size b (b + 1) ab sp k R ∧ Below w.heap.size w w') := Lib.hid (hfe.mono (by
          rintro e w' ⟨rfl, ⟨i, g1⟩, g2⟩
          refine ⟨rfl, g1, (HB.out.trans ?_).trans (below_weaken_m (by omega) g2)⟩
          exact below_weaken_m (by have := HB.out.size; omega) hbl))
        rw [← hWb] at HFE
        clear hfe hin hbl hqs hR hWb
        obtain ⟨f, y⟩ := R
        go_upto_region 11 with (go_at_call 71; refine HFE.out.mono ?_; rintro e w3 ⟨rfl, g1, g2⟩)
        have cf : w3.cell? ⟨b + 1, 0, none⟩ = some (.bool f) := by rw [cell_of_row w3 _ 0 _ _ (0, 0) g1.hit]; rfl
        have ca : w3.cell? ⟨ab, 0, none⟩ = some (.bool y) := by rw [cell_of_row w3 _ 0 _ _ (0, 0) g1.all]; rfl
        have G1 := Lib.hid g1
        have G2 := Lib.hid g2
        clear g1 g2 HFE
        have no : (f && y) = false → Hid (sp.all (hitOf a1) = false) := fun hfy => Lib.hid (by
          rw [List.all_eq_false]
          exact ⟨sp[k], List.getElem_mem hk, by rw [hhit.out, hfy]; simp⟩)
        cases f with
        | false =>
          have hres := no rfl
          clear no
          go_wp2
          go_ret
          exact ⟨by rw [hres.out]; rfl, G2.out⟩
        | true =>
          cases y with
          | false =>
            have hres := no rfl
            clear no
            go_wp2
            go_ret
            exact ⟨by rw [hres.out]; rfl, G2.out⟩
          | true =>
            clear no
            go_wp2
            go_roundw
            case rel => exact ⟨k + 1, by first | rfl | trivial, by go_num, by omega, Lib.hid G1.out.row, Lib.hid G1.out.all, G2, Lib.hid (fun j hj hjk => by
              rcases Nat.lt_or_ge j k with h | h
              · exact HALL.out j hj h
              · obtain rfl : j = k := by omega
                exact hhit.out)⟩
            case measure => simp [intOf]; omega
      · have hres : Hid (sp.all (hitOf a1) = true) := Lib.hid (by
          rw [List.all_eq_true]
          intro q hq
          obtain ⟨j, hj, rfl⟩ := List.getElem_of_mem hq
          exact HALL.out j hj (by omega))
        have ca : wr.cell? ⟨ab, 0, none⟩ = some (.bool true) := by rw [cell_of_row wr ab 0 _ _ (0, 0) HA.out]; rfl
        go_wp2
        go_ret
        exact ⟨by rw [hres.out]; rfl, HB.out⟩
theorem fiberhelpers_paramsMatch.calls (a0 a1 : ByteArray) (r : Bool) (w : World) (h : fiberhelpers_paramsMatch.f a0 a1 = some r) :
    Calls Try.prog 74 #[.string a0, .string a1] w fun e w' => e = .returned (.bool r) ∧ Below w.heap.size w w' := by
  unfold fiberhelpers_paramsMatch.f at h
  by_cases hb : a0.size ≤ 1099511627776 ∧ a1.size ≤ 1099511627776
  · rw [if_pos hb] at h
    obtain rfl := Option.some.inj h
    exact match_calls a0 a1 w hb.1 hb.2
  · rw [if_neg hb] at h
    cases h
end Go.Proofs.Ytkbmababljcabaa.Given
