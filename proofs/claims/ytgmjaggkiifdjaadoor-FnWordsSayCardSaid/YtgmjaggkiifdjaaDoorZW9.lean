/- Texts of this claim, one behind the other (merged by wip/prune.py of this repo, without what the proof does not use): GStat2. -/
import Derived.Test.YtgmjaggkiifdjaaDoorZW7
import Derived.Shelf.Strconv.Itoa3
import Derived.Test.YtgmjaggkiifdjaaDoorProg
set_option linter.unusedVariables false
set_option linter.unusedSimpArgs false
namespace Go.Proofs.YtgmjaggkiifdjaaDoor.Given
open Go.RowKit Go.Proofs.YtgmjaggkiifdjaaDoorW.PrintWords Go.Proofs.YtgmjaggkiifdjaaDoorW.PrintLast Go.Proofs.YtgmjaggkiifdjaaDoorW.PrintMore Go.Proofs.YtgmjaggkiifdjaaDoor.Base Go.Proofs.YtgmjaggkiifdjaaDoor.Gv
def stFind (L : List (Int × ByteArray)) (n : Int) : ByteArray := ((L.find? fun p => decide (p.1 = n)).map Prod.snd).getD ⟨#[]⟩
theorem stFind_mem : ∀ (L : List (Int × ByteArray)), (L.map Prod.fst).Nodup → ∀ n v, (n, v) ∈ L → stFind L n = v
  | [], _, _, _, h => by cases h
  | (k, x) :: L, hn, n, v, h => by
    rw [List.map_cons, List.nodup_cons] at hn
    unfold stFind
    by_cases e : k = n
    · rw [List.find?_cons_of_pos (by simpa using e)]
      rcases List.mem_cons.1 h with h | h
      · rw [← (Prod.mk.inj h).2]; rfl
      · exact absurd (List.mem_map.2 ⟨_, h, e.symm⟩) hn.1
    · rw [List.find?_cons_of_neg (by simpa using e)]
      rcases List.mem_cons.1 h with h | h
      · exact absurd (Prod.mk.inj h).1.symm e
      · exact stFind_mem L hn.2 n v h
theorem stFind_none : ∀ (L : List (Int × ByteArray)) (n : Int), n ∉ L.map Prod.fst → stFind L n = ⟨#[]⟩
  | [], _, _ => rfl
  | (k, x) :: L, n, h => by
    rw [List.map_cons, List.mem_cons, not_or] at h
    unfold stFind
    rw [List.find?_cons_of_neg (by simpa using Ne.symm h.1)]
    exact stFind_none L n h.2
theorem run_look {P : Program} {w0 W : World} {L : List (Int × ByteArray)} {mty kt et : TypeId} (hm : P.underlying mty = some (.map kt et)) (hd : P.underlying kt = some (.int .i64)) (hz : ∀ w, (zeroValue et).run P w = .ok (.string ⟨#[]⟩) w) (hn : (L.map Prod.fst).Nodup) (h : MapAt w0 L W) (k : Int) :
    (Instr.lookup mty (.map (some w0.heap.size)) (.int .i64 k) false).run P W = .ok (.string (stFind L k)) W := by
  obtain ⟨hb, es, clock, hh, he⟩ := h
  have hkeys := MapAt.key (w0 := w0) (W := W) he
  have hk1 : MapKept.IsKey (.int .i64) (.int .i64 k) := rfl
  have hck : ∀ e, (Instr.checkKey e 10000 kt (.int .i64 k)).run P W = .ok () W := fun e => MapKept.run_checkKey hd hk1 e 9999
  rcases MapKept.findNow_spec hk1 es.toList 0 (fun x hx => by obtain ⟨p, _, e, _⟩ := hkeys x hx; rw [e]; exact rfl) with ⟨h1, h2⟩ | ⟨j, e, h1, h2, h3⟩
  · have hno : k ∉ L.map Prod.fst := by
      intro hin
      obtain ⟨p, hp, e⟩ := List.mem_map.1 hin
      have : ((.int .i64 p.1 : Value), (.string p.2 : Value)) ∈ es.toList.map (fun e => (e.key, e.val)) := by rw [he]; exact List.mem_map.2 ⟨p, hp, rfl⟩
      obtain ⟨x, hx, ex⟩ := List.mem_map.1 this
      refine h2 x hx ?_
      rw [(Prod.mk.inj ex).1, e]
    rw [stFind_none L k hno]
    simp [Instr.lookup, run_underlying hm, MapKept.run_getObj_map hh, hck, MapKept.run_findKey hd h1, hz, Result.andThen]
  · obtain ⟨p, hp, e1, e2⟩ := hkeys e (List.mem_of_getElem? h2)
    rw [e1] at h3
    injection h3 with _ h4
    have hp' : (k, p.2) ∈ L := by rw [← h4]; exact hp
    rw [stFind_mem L hn k p.2 hp', ← e2]
    simp [Instr.lookup, run_underlying hm, MapKept.run_getObj_map hh, hck, MapKept.run_findKey hd h1, Result.andThen]
def unkB : ByteArray := ⟨#[85, 110, 107, 110, 111, 119, 110, 32, 83, 116, 97, 116, 117, 115, 32, 67, 111, 100, 101]⟩
def statMsg (n : Int) : ByteArray := if n < 100 ∨ n > 511 then unkB else if (stFind statL n).size = 0 then unkB else stFind statL n
set_option maxHeartbeats 1000000 in
set_option maxRecDepth 100000 in
theorem statMsg_calls (n : Int) (w : World) : Calls Tryd.prog 50 #[.int .i64 n] w fun e w' => e = .returned (.string (statMsg n)) ∧ Below w.heap.size w w' := by
  unfold statMsg
  by_cases h1 : n < 100
  · rw [if_pos (.inl h1)]
    have b : decide (n < 100) = true := decide_eq_true h1
    go_enter Tryd.func50, Tryd.ntmps50
    go_wp2
    go_ret
    exact ⟨rfl, Below.refl _ _⟩
  by_cases h2 : n > 511
  · rw [if_pos (.inr h2)]
    have b : decide (n < 100) = false := decide_eq_false h1
    have b2 : decide (511 < n) = true := decide_eq_true h2
    go_enter Tryd.func50, Tryd.ntmps50
    go_wp2
    go_ret
    exact ⟨rfl, Below.refl _ _⟩
  rw [if_neg (fun h => h.elim h1 h2)]
  have b : decide (n < 100) = false := decide_eq_false h1
  have b2 : decide (511 < n) = false := decide_eq_false h2
  have hl := fun W (h : MapAt w statL W) => run_look (P := Tryd.prog) (mty := 62) Tryd.underlying62 Tryd.underlying3 Tryd.zeroValue9 stat_nodup h n
  obtain ⟨v, hv⟩ : ∃ v, stFind statL n = v := ⟨_, rfl⟩
  rw [hv] at hl ⊢
  have HL := Lib.hid hl
  clear hl hv h1 h2
  by_cases hz : v.size = 0
  · rw [if_pos hz]
    have e1 : (v.toList == ([] : List UInt8)) = true := beq_iff_eq.2 (by rw [Lib.toList_data, ← List.length_eq_zero_iff, ← Lib.size_eq]; exact hz)
    have e2 : v.toList.isEmpty = true := by rw [List.isEmpty_iff]; exact beq_iff_eq.1 e1
    go_enter Tryd.func50, Tryd.ntmps50
    go_upto_region 3 with (fail)
    go_wp2_with (go_at_call 78; refine (statMsgs_calls w).mono ?_; rintro e w1 ⟨rfl, hm⟩; have hlk := HL.out w1 hm; have HB := Lib.hid hm.1; clear hm)
    go_ret
    exact ⟨rfl, HB.out⟩
  · rw [if_neg hz]
    have e1 : (v.toList == ([] : List UInt8)) = false := beq_eq_false_iff_ne.2 (fun h => hz (by rw [Lib.size_eq, List.length_eq_zero_iff, ← Lib.toList_data]; exact h))
    have e2 : v.toList.isEmpty = false := by rw [List.isEmpty_eq_false_iff]; exact beq_eq_false_iff_ne.1 e1
    go_enter Tryd.func50, Tryd.ntmps50
    go_upto_region 3 with (fail)
    go_wp2_with (go_at_call 78; refine (statMsgs_calls w).mono ?_; rintro e w1 ⟨rfl, hm⟩; have hlk := HL.out w1 hm; have HB := Lib.hid hm.1; clear hm)
    go_ret
    exact ⟨rfl, HB.out⟩
end Go.Proofs.YtgmjaggkiifdjaaDoor.Given
