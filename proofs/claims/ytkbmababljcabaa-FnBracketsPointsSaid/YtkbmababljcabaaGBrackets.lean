/- Brackets: a key with brackets written with points; none where the brackets do not match. -/
import Derived.Test.YtkbmababljcabaaGBuilder
import Derived.Test.YtkbmababljcabaaGErrNew
set_option linter.unusedVariables false
namespace Go.Proofs.Ytkbmababljcabaa.Given
open Go.RowKit Go.Proofs.YtkbmababljcabaaW.PrintWords Go.Proofs.YtkbmababljcabaaW.PrintLast Go.Proofs.YtkbmababljcabaaW.PrintMore Go.Proofs.Ytkbmababljcabaa.Base Go.Proofs.Ytkbmababljcabaa.Gv

/-- A point is written ahead of what follows an opening bracket, but not ahead of a closing one or at the end. -/
def pointOf (r : List Int) : List Int := if 0 < r.length ∧ r.getD 0 0 ≠ 93 then [46] else []
def brGo : Int → List Int → List Int → Option (List Int)
  | n, acc, [] => if n > 0 then none else some acc
  | n, acc, c :: r => if c = 91 then brGo (n + 1) (acc ++ pointOf r) r else if c = 93 then (if n - 1 < 0 then none else brGo (n - 1) acc r) else brGo n (acc ++ [c]) r
def brOf (xs : List Int) : Option (List Int) := brGo 0 [] xs
def BrSays (R : Option (List Int)) (e : Ending) : Prop :=
  match R with
  | some l => e = .returned (.tuple #[.string (strOfNums l), .nilIface])
  | none => ∃ s u x, e = .returned (.tuple #[.string s, .iface u x])
set_option maxHeartbeats 8000000 in
set_option maxRecDepth 100000 in
theorem parseBrackets_calls (a0 : ByteArray) (w : World) (hbd : a0.size ≤ 70368744177664) :
    Calls Try.prog 70 #[.string a0] w fun e w' => BrSays (brOf (ns a0)) e ∧ Below w.heap.size w w' := by
  obtain ⟨W0, hW0⟩ : ∃ W0, w.alloc (.cells #[.pointer none, .slice none 0 0] 107) = W0 := ⟨_, rfl⟩
  have hsz0 : W0.heap.size = w.heap.size + 1 := by rw [← hW0]; simp
  have hcv := Lib.run_convert_string_bytes (P := Try.prog) W0 9 30 5 a0 Try.underlying9 Try.underlying30 Try.underlying5
  have hbr := Br.conv W0 5 a0
  have hbl := conv_below W0 5 a0
  have hszW := Lib.bytesWorld_size W0 5 a0
  obtain ⟨c, hc⟩ : ∃ c, grownCap W0 a0.size 0 5 = c := ⟨_, rfl⟩
  rw [hc] at hcv
  clear hc
  obtain ⟨W, hW⟩ : ∃ W, Lib.bytesWorld W0 5 a0 = W := ⟨_, rfl⟩
  rw [hW] at hcv hbr hbl hszW
  rw [hsz0] at hcv hbr hbl hszW
  have hb0 : W0.heap[w.heap.size]? = some (.cells #[.pointer none, .slice none 0 0] 107 (0, 0)) := by rw [← hW0]; exact heap_alloc_new w _
  have hbld : Hid (Bld W w.heap.size (w.heap.size + 1) []) := Lib.hid ⟨by omega, by rw [hszW]; omega, .pointer none, .slice none 0 0, by rw [hbl.block _ (by omega)]; exact hb0, .inl rfl, own_nil _ _ _ _, fun _ => rfl⟩
  have hbw : Hid (Below w.heap.size w W) := Lib.hid (by
    have h1 : Below w.heap.size w W0 := by rw [← hW0]; exact (Below.refl _ _).alloc (Nat.le_refl _) _
    exact h1.trans ⟨hbl.os, hbl.tape, hbl.output, hbl.size, fun k hk => hbl.block k (by omega)⟩)
  have HBR := Lib.hid hbr
  rw [← hW0] at hcv
  obtain ⟨RES, hR⟩ : ∃ R, brOf (ns a0) = R := ⟨_, rfl⟩
  have HR := Lib.hid hR
  rw [hR]
  clear hW hW0 hsz0 hbl hbr hszW hb0 hR
  go_enter Try.func70, Try.ntmps70
  go_wp2
  go_loopw [6, 7, 8, 9, 10, 15] (fun cn _ _ _ _ i wr => ∃ (k : Nat) (n : Int) (acc : List Int), cn = .int .i64 n ∧ i = .int .i64 k ∧ k ≤ a0.size ∧ 0 ≤ n ∧ n ≤ k ∧ Hid (acc.length ≤ k) ∧ Hid (∀ x ∈ acc, 0 ≤ x ∧ x ≤ 255) ∧ Hid (Bld wr w.heap.size (w.heap.size + 1) acc) ∧ Hid (Br wr 5 (w.heap.size + 1) (ns a0)) ∧ Hid (Below w.heap.size w wr) ∧ Hid (brGo n acc ((ns a0).drop k) = RES)) (fun _ _ _ _ _ i _ => a0.size - (intOf i).toNat)
  case atStart => exact ⟨0, 0, [], rfl, rfl, by omega, by omega, by omega, Lib.hid (by simp), Lib.hid (fun x hx => by cases hx), hbld, HBR, hbw, Lib.hid (by rw [List.drop_zero]; exact HR.out)⟩
  case round =>
    obtain ⟨k, n, acc, rfl, rfl, hk, hn0, hnk, HA, HX, HBD, HB, HBL, HE⟩ := hrel
    by_cases hlt : k < a0.size
    · have hl : k < (ns a0).length := by rw [ns_length]; exact hlt
      have hck := HB.out.cell k hl
      have hdr : (ns a0).drop k = (ns a0).getD k 0 :: (ns a0).drop (k + 1) := by
        rw [List.drop_eq_getElem_cons hl, List.getD_eq_getElem?_getD, List.getElem?_eq_getElem hl]; rfl
      have hcr := ns_range a0 ((ns a0).getD k 0) (by rw [List.getD_eq_getElem?_getD, List.getElem?_eq_getElem hl]; exact List.getElem_mem _)
      obtain ⟨ch, hch⟩ : ∃ ch, (ns a0).getD k 0 = ch := ⟨_, rfl⟩
      rw [hch] at hck hdr hcr
      have HD : Hid (brGo n acc (ch :: (ns a0).drop (k + 1)) = RES) := Lib.hid (by rw [← hdr]; exact HE.out)
      have hwr := writeByte_calls wr w.heap.size (w.heap.size + 1) acc
      have hlen : acc.length + 1 ≤ 140737488355328 := by have := HA.out; omega
      have HW : Hid (∀ c : Int, Calls Try.prog 81 #[.pointer (some ⟨w.heap.size, 0, none⟩), .int .u8 c] wr fun e w' => e = .returned .nilIface ∧ Bld w' w.heap.size (w.heap.size + 1) (acc ++ [c]) ∧ Below w.heap.size wr w' ∧ w'.heap[w.heap.size + 1]? = wr.heap[w.heap.size + 1]?) := Lib.hid (fun c => hwr c HBD.out hlen)
      clear hwr hlen hch hdr HE
      by_cases h91 : ch = 91
      · subst h91
        have HD2 : Hid (brGo (n + 1) (acc ++ pointOf ((ns a0).drop (k + 1))) ((ns a0).drop (k + 1)) = RES) := Lib.hid (by have := HD.out; unfold brGo at this; rw [if_pos rfl] at this; exact this)
        clear HD
        by_cases hlt2 : k + 1 < a0.size
        · have hl2 : k + 1 < (ns a0).length := by rw [ns_length]; exact hlt2
          have hck2 := HB.out.cell (k + 1) hl2
          have hpt : pointOf ((ns a0).drop (k + 1)) = if (ns a0).getD (k + 1) 0 = 93 then [] else [46] := by
            unfold pointOf
            have e1 : ((ns a0).drop (k + 1)).getD 0 0 = (ns a0).getD (k + 1) 0 := by
              rw [List.getD_eq_getElem?_getD, List.getElem?_drop, List.getD_eq_getElem?_getD]
            rw [e1, List.length_drop]
            by_cases h93 : (ns a0).getD (k + 1) 0 = 93
            · rw [if_pos h93, if_neg (fun h => h.2 h93)]
            · rw [if_neg h93, if_pos ⟨by omega, h93⟩]
          obtain ⟨d, hd⟩ : ∃ d, (ns a0).getD (k + 1) 0 = d := ⟨_, rfl⟩
          rw [hd] at hck2 hpt
          clear hd
          by_cases h93 : d = 93
          · subst h93
            have HD3 : Hid (brGo (n + 1) acc ((ns a0).drop (k + 1)) = RES) := Lib.hid (by have := HD2.out; rw [hpt, if_pos rfl, List.append_nil] at this; exact this)
            clear hpt HD2
            go_wp2
            go_roundw
            case rel => exact ⟨k + 1, n + 1, acc, rfl, by go_num, by omega, by omega, by omega, Lib.hid (by have := HA.out; omega), HX, HBD, HB, HBL, HD3⟩
            case measure => simp [intOf]; omega
          · have HD3 : Hid (brGo (n + 1) (acc ++ [46]) ((ns a0).drop (k + 1)) = RES) := Lib.hid (by have := HD2.out; rw [hpt, if_neg h93] at this; exact this)
            have hne : (d != 93) = true := bne_iff_ne.2 h93
            clear hpt HD2 h93
            go_wp2_with (go_at_call 81; refine (HW.out 46).mono ?_; rintro e w2 ⟨rfl, g1, g2, g3⟩)
            go_roundw
            case rel => exact ⟨k + 1, n + 1, acc ++ [46], rfl, by go_num, by omega, by omega, by omega, Lib.hid (by have := HA.out; simp; omega), Lib.hid (fun x hx => by
              rcases List.mem_append.1 hx with h | h
              · exact HX.out x h
              · rw [List.mem_singleton.1 h]; decide), Lib.hid g1, Lib.hid (HB.out.same g3), Lib.hid (HBL.out.trans g2), HD3⟩
            case measure => simp [intOf]; omega
        · have HD3 : Hid (brGo (n + 1) acc ((ns a0).drop (k + 1)) = RES) := Lib.hid (by
            have := HD2.out
            rw [show pointOf ((ns a0).drop (k + 1)) = [] by unfold pointOf; rw [if_neg]; rw [List.length_drop, ns_length]; omega, List.append_nil] at this
            exact this)
          clear HD2
          go_wp2
          go_roundw
          case rel => exact ⟨k + 1, n + 1, acc, rfl, by go_num, by omega, by omega, by omega, Lib.hid (by have := HA.out; omega), HX, HBD, HB, HBL, HD3⟩
          case measure => simp [intOf]; omega
      · by_cases h93 : ch = 93
        · subst h93
          by_cases hn1 : n - 1 < 0
          · have hnone : Hid (RES = none) := Lib.hid (by have := HD.out; unfold brGo at this; rw [if_neg (by decide), if_pos rfl, if_pos hn1] at this; exact this.symm)
            clear HD h91
            go_wp2_with (go_at_call 82; refine (errNew_calls _ _).mono ?_; rintro e w2 ⟨g1, u, x, rfl⟩)
            go_ret2
            exact ⟨by rw [hnone.out]; exact ⟨_, _, _, rfl⟩, below_step HBL.out g1⟩
          · have HD3 : Hid (brGo (n - 1) acc ((ns a0).drop (k + 1)) = RES) := Lib.hid (by have := HD.out; unfold brGo at this; rw [if_neg (by decide), if_pos rfl, if_neg hn1] at this; exact this)
            clear HD h91
            go_wp2
            go_roundw
            case rel => exact ⟨k + 1, n - 1, acc, rfl, by go_num, by omega, by omega, by omega, Lib.hid (by have := HA.out; omega), HX, HBD, HB, HBL, HD3⟩
            case measure => simp [intOf]; omega
        · have HD3 : Hid (brGo n (acc ++ [ch]) ((ns a0).drop (k + 1)) = RES) := Lib.hid (by have := HD.out; unfold brGo at this; rw [if_neg h91, if_neg h93] at this; exact this)
          have HCR := Lib.hid hcr
          have e91 : (ch == 91) = false := beq_eq_false_iff_ne.2 h91
          have e93 : (ch == 93) = false := beq_eq_false_iff_ne.2 h93
          clear HD h91 h93 hcr
          go_wp2_with (go_at_call 81; refine (HW.out ch).mono ?_; rintro e w2 ⟨rfl, g1, g2, g3⟩)
          go_roundw
          case rel => exact ⟨k + 1, n, acc ++ [ch], rfl, by go_num, by omega, by omega, by omega, Lib.hid (by have := HA.out; simp; omega), Lib.hid (fun x hx => by
              rcases List.mem_append.1 hx with h | h
              · exact HX.out x h
              · rw [List.mem_singleton.1 h]; exact HCR.out), Lib.hid g1, Lib.hid (HB.out.same g3), Lib.hid (HBL.out.trans g2), HD3⟩
          case measure => simp [intOf]; omega
    · obtain rfl : k = a0.size := by omega
      have HD : Hid ((if n > 0 then none else some acc) = RES) := Lib.hid (by have := HE.out; rw [List.drop_eq_nil_of_le (by rw [ns_length]; exact Nat.le_refl _), brGo] at this; exact this)
      clear HE
      by_cases hnp : n > 0
      · have hnone : Hid (RES = none) := Lib.hid (by have := HD.out; rw [if_pos hnp] at this; exact this.symm)
        go_wp2_with (go_at_call 82; refine (errNew_calls _ _).mono ?_; rintro e w2 ⟨g1, u, x, rfl⟩)
        go_ret2
        exact ⟨by rw [hnone.out]; exact ⟨_, _, _, rfl⟩, below_step HBL.out g1⟩
      · have hsome : Hid (RES = some acc) := Lib.hid (by have := HD.out; rw [if_neg hnp] at this; exact this.symm)
        have HS := Lib.hid (string_calls wr w.heap.size (w.heap.size + 1) acc HX.out HBD.out)
        go_wp2_with (go_at_call 83; refine HS.out.mono ?_; rintro e w2 ⟨rfl, g1⟩)
        go_ret2
        exact ⟨by rw [hsome.out]; rfl, HBL.out.trans g1⟩
def impl_Brackets.f (a0 : ByteArray) : Option (ByteArray × Bool) :=
  if a0.size ≤ 70368744177664 then some (match brOf (ns a0) with | some l => (strOfNums l, true) | none => (⟨#[]⟩, false)) else none
set_option maxHeartbeats 1000000 in
theorem zzBrackets_calls (a0 : ByteArray) (w : World) (hbd : a0.size ≤ 70368744177664) :
    Calls Try.prog 48 #[.string a0] w fun e w' => BrSays (brOf (ns a0)) e ∧ Below w.heap.size w w' := by
  have hc := parseBrackets_calls a0 w hbd
  cases hb : brOf (ns a0) with
  | none =>
    rw [hb] at hc
    have HC := Lib.hid hc
    clear hc hb
    go_enter Try.func48, Try.ntmps48
    go_wp2_with (go_at_call 70; refine HC.out.mono ?_; rintro e w2 ⟨⟨s, u, x, rfl⟩, g⟩)
    go_ret2
    exact ⟨⟨_, _, _, rfl⟩, g⟩
  | some l =>
    rw [hb] at hc
    have HC : Hid (Calls Try.prog 70 #[.string a0] w fun e w' => e = .returned (.tuple #[.string (strOfNums l), .nilIface]) ∧ Below w.heap.size w w') := Lib.hid hc
    clear hc hb
    go_enter Try.func48, Try.ntmps48
    go_wp2_with (go_at_call 70; refine HC.out.mono ?_; rintro e w2 ⟨rfl, g⟩)
    go_ret2
    exact ⟨rfl, g⟩
set_option maxHeartbeats 1000000 in
theorem impl_Brackets.calls (a0 : ByteArray) (r1 : ByteArray) (r2 : Bool) (w : World) (h : impl_Brackets.f a0 = some (r1, r2)) :
    Calls Try.prog 24 #[.string a0] w fun e w' => e = .returned (.tuple #[.string r1, .bool r2]) ∧ Below w.heap.size w w' := by
  unfold impl_Brackets.f at h
  by_cases hbd : a0.size ≤ 70368744177664
  · rw [if_pos hbd] at h
    have hres := Option.some.inj h
    clear h
    have hc := zzBrackets_calls a0 w hbd
    cases hb : brOf (ns a0) with
    | none =>
      rw [hb] at hc hres
      obtain ⟨rfl, rfl⟩ := Prod.mk.inj hres
      have HC := Lib.hid hc
      clear hc hb hres
      go_enter Try.func24, Try.ntmps24
      go_wp2_with (go_at_call 48; refine HC.out.mono ?_; rintro e w2 ⟨⟨s, u, x, rfl⟩, g⟩)
      go_ret2
      exact ⟨rfl, g⟩
    | some l =>
      rw [hb] at hc hres
      obtain ⟨rfl, rfl⟩ := Prod.mk.inj hres
      have HC : Hid (Calls Try.prog 48 #[.string a0] w fun e w' => e = .returned (.tuple #[.string (strOfNums l), .nilIface]) ∧ Below w.heap.size w w') := Lib.hid hc
      clear hc hb hres
      go_enter Try.func24, Try.ntmps24
      go_wp2_with (go_at_call 48; refine HC.out.mono ?_; rintro e w2 ⟨rfl, g⟩)
      go_ret2
      exact ⟨rfl, g⟩
  · rw [if_neg hbd] at h
    cases h
end Go.Proofs.Ytkbmababljcabaa.Given
