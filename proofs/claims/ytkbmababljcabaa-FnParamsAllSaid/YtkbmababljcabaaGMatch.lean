/- paramsMatch: its two closures and its own loop. -/
import Derived.Test.YtkbmababljcabaaGMatchP
import Derived.Laws.OwnMore
import Derived.Laws.MakeOwn
import Derived.WalkMore
set_option linter.unusedVariables false
namespace Go.Proofs.Ytkbmababljcabaa.Given
open Go.RowKit Go.Proofs.YtkbmababljcabaaW.PrintWords Go.Proofs.YtkbmababljcabaaW.PrintLast Go.Proofs.YtkbmababljcabaaW.PrintMore Go.Proofs.Ytkbmababljcabaa.Base Go.Proofs.Ytkbmababljcabaa.Gv Go.Proofs.Ytkbmababljcabaa.QA

set_option maxHeartbeats 4000000 in
set_option maxRecDepth 100000 in
theorem put_calls (w : World) (h o : Nat) (sp : SP) (p v : ByteArray) (hr : SpRow w h o sp) (hlen : (sp.length + 1) * 32 ≤ 140737488355328) (hp : p.size ≤ 1099511627776) (hs : ∀ q ∈ sp, q.1.size ≤ 1099511627776) :
    Calls Try.prog 85 #[.string p, .string v, .pointer (some ⟨o, 0, none⟩)] w fun e w' => e = .returned (.bool (specStep sp p v).1) ∧ SpRow w' h o (specStep sp p v).2 ∧ Below h w w' := by
  by_cases q1 : p.toList = ([113] : List UInt8)
  · have e1 : specStep sp p v = (false, sp) := by unfold specStep; rw [if_pos (.inl q1)]
    rw [e1]
    have q1b : (p.toList == ([113] : List UInt8)) = true := beq_iff_eq.2 q1
    have HR := Lib.hid hr
    clear hr hs e1 q1
    go_enter Try.func85, Try.ntmps85
    go_wp2
    go_ret
    exact ⟨rfl, HR.out, Below.refl _ _⟩
  · by_cases q2 : p.toList = ([81] : List UInt8)
    · have e1 : specStep sp p v = (false, sp) := by unfold specStep; rw [if_pos (.inr q2)]
      rw [e1]
      have q1b : (p.toList == ([113] : List UInt8)) = false := beq_eq_false_iff_ne.2 q1
      have q2b : (p.toList == ([81] : List UInt8)) = true := beq_iff_eq.2 q2
      have HR := Lib.hid hr
      clear hr hs e1 q1 q2
      go_enter Try.func85, Try.ntmps85
      go_wp2
      go_ret
      exact ⟨rfl, HR.out, Below.refl _ _⟩
    · have e1 : specStep sp p v = if findF p sp < sp.length then (false, sp.set (findF p sp) ((sp.getD (findF p sp) noP).1, v)) else (true, sp ++ [(p, v)]) := by
        unfold specStep; rw [if_neg (fun e => e.elim q1 q2)]
      rw [e1]
      have q1b : (p.toList == ([113] : List UInt8)) = false := beq_eq_false_iff_ne.2 q1
      have q2b : (p.toList == ([81] : List UInt8)) = false := beq_eq_false_iff_ne.2 q2
      obtain ⟨N, hN⟩ : ∃ N, findF p sp = N := ⟨_, rfl⟩
      have hNl : N ≤ sp.length := by rw [← hN]; exact findF_le _ _
      have HNOT : Hid (∀ k (hk : k < sp.length), k < N → fiberutils_EqualFold.f p (sp[k]).1 = some false) := Lib.hid (fun k hk hkn => by
        unfold fiberutils_EqualFold.f
        rw [if_pos ⟨by omega, by have := hs _ (List.getElem_mem hk); omega⟩, findF_not p sp k hk (by rw [hN]; exact hkn)])
      have HAT : Hid (∀ (hk : N < sp.length), fiberutils_EqualFold.f p (sp[N]).1 = some true) := Lib.hid (fun hk => by
        unfold fiberutils_EqualFold.f
        have := findF_at p sp (by rw [hN]; exact hk)
        simp only [hN] at this
        rw [if_pos ⟨by omega, by have := hs _ (List.getElem_mem hk); omega⟩, this])
      rw [hN]
      obtain ⟨hho, g, cap, hh, hgo, ho⟩ := hr
      have hgb : h ≤ g := own_base ho g rfl
      have hol : o < w.heap.size := (Array.getElem?_eq_some_iff.1 hh).1
      have hcap : sp.length ≤ cap := own_cap ho
      have hcapm : cap ≤ maxLen := by
        rcases ho.2 with ⟨e, _⟩ | ⟨_, _, _, e, _, _, _, hm, _⟩
        · cases e
        · cases e; exact hm
      have c0 : ∀ n : Nat, (w.drewN n).cell? ⟨o, 0, none⟩ = some (.slice (some ⟨g, 0, none⟩) sp.length cap) := fun n => by rw [cell_of_row (w.drewN n) o 0 _ _ (0, 0) hh]; rfl
      have HO := Lib.hid ho
      have HH := Lib.hid hh
      have hkeys : Hid (∀ k (hk : k < sp.length) (n : Nat), (w.drewN n).cell? ⟨g, k * 2, none⟩ = some (.string (sp[k]).1)) := Lib.hid (fun k hk n => by
        have := World.ownsRow.cellAt ho (k * 2) (by omega)
        rw [flatS_key sp k hk] at this
        exact this)
      have hsl : (sp.length : Int) ≤ 4398046511104 := by omega
      have hinfo : (Try.prog.info? 112).map (fun i => (i.zero, i.size, i.bytes)) = some (some (.agg #[.string ByteArray.empty, .string ByteArray.empty]), 2, 32) := by kernel_rfl
      obtain ⟨i0, hi, hz0, hz1, hz2⟩ := info_parts hinfo
      obtain ⟨r, hres⟩ : ∃ r, (if N < sp.length then (false, sp.set N ((sp.getD N noP).1, v)) else (true, sp ++ [(p, v)])) = r := ⟨_, rfl⟩
      rw [hres]
      have HRES := Lib.hid hres
      clear e1 q1 q2 hN ho hh hs hres
      go_enter Try.func85, Try.ntmps85
      have c00 : w.cell? ⟨o, 0, none⟩ = some (.slice (some ⟨g, 0, none⟩) sp.length cap) := c0 0
      have C0 := Lib.hid c0
      clear c0
      go_wp2
      go_loopw [5, 6, 15] (fun s5 _ iv wi => ∃ (k m : Nat), s5 = .bool false ∧ wi = w.drewN m ∧ iv = .int .i64 k ∧ k ≤ N) (fun _ _ iv _ => sp.length - (intOf iv).toNat)
      case atStart => exact ⟨0, 0, rfl, rfl, rfl, by omega⟩
      case round =>
        obtain ⟨k, m, rfl, rfl, rfl, hkN⟩ := hrel
        have c1 := C0.out m
        clear c00
        by_cases hk : k < sp.length
        · obtain ⟨key, hkey⟩ : ∃ key, (sp[k]).1 = key := ⟨_, rfl⟩
          have c2 := hkeys.out k hk m
          rw [hkey] at c2
          by_cases hkn : k < N
          · have HE : Hid (fiberutils_EqualFold.f p key = some false) := Lib.hid (by rw [← hkey]; exact HNOT.out k hk hkn)
            clear hkey
            go_wp2_with (go_at_call 86; refine (fiberutils_EqualFold.calls p key false _ HE.out).mono ?_; rintro e w' ⟨rfl, ⟨n1, rfl⟩⟩)
            go_roundw
            case rel => exact ⟨k + 1, m + n1, by first | rfl | trivial, by first | rfl | simp, by go_num, by omega⟩
            case measure => simp [intOf]; omega
          · obtain rfl : k = N := by omega
            have HE : Hid (fiberutils_EqualFold.f p key = some true) := Lib.hid (by rw [← hkey]; exact HAT.out hk)
            have hfz : Hid (∀ n : Nat, (w.drewN n).frozen? ⟨g, k * 2 + 1, none⟩ = false) := Lib.hid (fun n => World.ownsRow.frozenAt (w := w.drewN n) HO.out (k * 2 + 1))
            have C0' := C0
            have c5 : w.cell? ⟨g, k * 2 + 1, none⟩ = some (.string (sp[k]).2) := by
              have := World.ownsRow.cellAt HO.out (k * 2 + 1) (by omega)
              rw [flatS_val sp k hk] at this
              exact this
            have C5 := Lib.hid c5
            clear c5
            clear hkey
            go_wp2_with (go_at_call 86; refine (fiberutils_EqualFold.calls p key true _ HE.out).mono ?_; rintro e w' ⟨rfl, ⟨n1, rfl⟩⟩; have fz := hfz.out (m + n1); have c4 := C0'.out (m + n1); have c5 := C5.out)
            go_ret
            have hr2 : r = (false, sp.set k ((sp.getD k noP).1, v)) := by rw [← HRES.out, if_pos hk]
            subst hr2
            refine ⟨rfl, ⟨hho, g, cap, ?_, hgo, ?_⟩, (pw_below_drewN (Below.refl h w) (m + n1)).setCell (p := ⟨g, k * 2 + 1, none⟩) hgb _⟩
            · rw [List.length_set, Below.heap_setCell _ _ _ _ (show o ≠ g from fun e => hgo e.symm)]
              exact HH.out
            · have hst := World.ownsRow.stored (w := w.drewN (m + n1)) HO.out (k * 2 + 1) (.string v)
              rw [flatS_set sp v k hk] at hst
              rw [List.length_set, List.getD_eq_getElem?_getD, List.getElem?_eq_getElem hk]
              exact hst.1
        · obtain rfl : k = sp.length := by omega
          have HOm : Hid ((w.drewN m).ownsRow h 112 2 (.slice (some ⟨g, 0, none⟩) sp.length cap) sp.length (flatS sp)) := HO
          have hr2 : r = (true, sp ++ [(p, v)]) := by rw [← HRES.out, if_neg (by omega)]
          subst hr2
          go_wp2_with (at_builtin; refine wpList_append_own _ rfl _ _ 111 rfl h 112 i0 (.agg #[.string ByteArray.empty, .string ByteArray.empty]) 2 32 Try.underlying111 hi hz0 hz1 hz2 rfl (by decide) _ _ _ rfl (HOm.out.alloc _) ⟨w.heap.size, 0, none⟩ 1 1 [.string p, .string v] rfl rfl ?c1 ?c2 ?c3 ?c4 ?c5 ?_)
          case c1 =>
            intro j u hj
            obtain ⟨W, hW⟩ : ∃ W, w.drewN m = W := ⟨_, rfl⟩
            have hz : w.heap.size = W.heap.size := by rw [← hW]; rfl
            rw [hW, hz]
            match j, hj with
            | 0, hj => simp at hj; subst hj; simp [Addr.add]
            | 1, hj => simp at hj; subst hj; simp [Addr.add]
          case c2 =>
            intro u hu
            simp only [List.mem_cons, List.not_mem_nil, or_false] at hu
            rcases hu with rfl | rfl <;> rfl
          case c3 => unfold maxLen; omega
          case c4 => exact hlen
          case c5 => simp; omega
          intro v' w2 hown' hgrow _
          have hold : ∀ k, k < w.heap.size → k ≠ g → w2.heap[k]? = w.heap[k]? := fun k hk hkg => by
            rw [hgrow.block k (by simp; omega) (by simp [Value.ownBlock]; exact hkg)]
            exact Below.heap_alloc _ _ _ (by simpa using hk)
          have hb2 : w2.heap[o]? = some (.cells #[.slice (some ⟨g, 0, none⟩) sp.length cap] 111 (0, 0)) := by rw [hold o hol (fun e => hgo e.symm)]; exact HH.out
          have d0 : w2.cell? ⟨o, 0, none⟩ = some (.slice (some ⟨g, 0, none⟩) sp.length cap) := by rw [cell_of_row w2 o 0 _ _ (0, 0) hb2]; rfl
          have f0 : w2.frozen? ⟨o, 0, none⟩ = false := frozen_of_row _ _ 0 _ _ hb2
          obtain ⟨g', cap', hv', hg'⟩ : ∃ g' cap', v' = .slice (some ⟨g', 0, none⟩) (sp.length + 1) cap' ∧ ∃ cur, w2.heap[g']? = some (.cells cur 112 (0, 0)) := by
            rcases hown'.2 with ⟨_, h0⟩ | ⟨g', cap', cur, hv, _, hg, _⟩
            · omega
            · exact ⟨g', cap', hv, cur, hg⟩
          subst hv'
          have hgo' : g' ≠ o := by
            rintro rfl
            obtain ⟨cur, hcur⟩ := hg'
            rw [hb2] at hcur
            simp at hcur
          have hbw2 : Below h w w2 := by
            refine ⟨hgrow.os, hgrow.tape, hgrow.output, ?_, fun k hk => hold k (by omega) (by omega)⟩
            have := hgrow.size
            simp at this
            omega
          have HOW := Lib.hid hown'
          have HB2 := Lib.hid hb2
          have HW2 := Lib.hid hbw2
          have HGO := Lib.hid hgo'
          clear hown' hb2 hbw2 hgrow hold hi hz0 hz1 hz2 hinfo hg' hgo'
          go_wp2
          go_ret
          refine ⟨rfl, ⟨hho, g', cap', ?_, HGO.out, ?_⟩, HW2.out.setCell (p := ⟨o, 0, none⟩) hho _⟩
          · have := heap_setCell_same w2 o 0 _ 111 (.slice (some ⟨g', 0, none⟩) (sp.length + 1) cap') HB2.out
            rw [List.length_append, List.length_singleton]
            simpa using this
          · have hm := own_move (w1 := w2.setCell ⟨o, 0, none⟩ (.slice (some ⟨g', 0, none⟩) (sp.length + 1) cap')) HOW.out (fun k hk => Below.heap_setCell _ _ _ _ (by
              have : g' = k := by simpa [Value.ownBlock] using hk
              rw [← this]; exact HGO.out))
            rw [flatS_append, List.length_append, List.length_singleton]
            exact hm
end Go.Proofs.Ytkbmababljcabaa.Given
