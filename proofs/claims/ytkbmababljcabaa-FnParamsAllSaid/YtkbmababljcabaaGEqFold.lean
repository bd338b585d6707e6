/- EqualFold: whether two texts are the same but for the case of their letters, over any texts. -/
import Derived.Test.YtkbmababljcabaaGvRow
import Derived.Test.YtkbmababljcabaaGvNk
import Derived.BigQuiet
set_option linter.unusedVariables false
namespace Go.Proofs.Ytkbmababljcabaa.Given
open Go.RowKit Go.Proofs.YtkbmababljcabaaW.PrintWords Go.Proofs.YtkbmababljcabaaW.PrintLast Go.Proofs.YtkbmababljcabaaW.PrintMore Go.Proofs.Ytkbmababljcabaa.Base Go.Proofs.Ytkbmababljcabaa.Gv

def eqFold (a b : ByteArray) : Bool := decide ((ns a).map up = (ns b).map up)
def fiberutils_EqualFold.f (a0 a1 : ByteArray) : Option Bool := if a0.size ≤ 4611686018427387904 ∧ a1.size ≤ 4611686018427387904 then some (eqFold a0 a1) else none
section
variable {P : Program} {C : World → Prop} {a : Act} {o : Oper}
theorem quiet_index_tab {K : Act → Prop} (t : TypeId) (x i : Operand) (ho : o.op = .index t x i)
    (S : ByteArray) (n : Int) (k : IntKind) (hx : a.eval x = .string S) (hi : a.eval i = .int k n) (ht : P.underlying t = some .string) (h0 : 0 ≤ n) (h1 : n < S.size) (v : Int) (hv : bt S n = v)
    (hk : K (a.put o.dst (.int .u8 v))) : o.quiet P a C K := by
  refine ⟨_, fun w _ => ?_, hk⟩
  have hn : n.toNat < S.size := by omega
  have hb : ((S[n.toNat]'hn).toNat : Int) = v := by rw [← hv]; exact bt_at S n hn
  have hr : (Instr.index t (.string S) (.int k n)).run P w = .ok (.int .u8 v) w := by
    rw [← hb]
    simp [Instr.index, asIntOf, run_underlying ht, h0, hn]
  have he : (execOp a.eval o).run P w = .ok (.value (.int .u8 v)) w := by
    unfold execOp
    simp only [ho, hx, hi, Sem.run_bind, hr, Result.andThen_ok, Sem.run_pure]
  unfold Oper.quietAt
  rw [he]
  exact ⟨rfl, rfl⟩
theorem quiet_index_fn {K : Act → Prop} (t : TypeId) (x i : Operand) (ho : o.op = .index t x i)
    (S : ByteArray) (n : Int) (k : IntKind) (hx : a.eval x = .string S) (hi : a.eval i = .int k n) (ht : P.underlying t = some .string) (h0 : 0 ≤ n) (h1 : n ≤ 255) (f : Int → Int) (hv : TabIs S f)
    (hk : K (a.put o.dst (.int .u8 (f n)))) : o.quiet P a C K := by
  obtain ⟨m, rfl⟩ := Int.eq_ofNat_of_zero_le h0
  exact quiet_index_tab t x i ho S _ k hx hi ht h0 (by rw [hv.1]; omega) _ (hv.2 ⟨m, by omega⟩) hk
end
theorem drop_cons_ (xs : List Int) (k : Nat) (h : k < xs.length) : xs.drop k = xs.getD k 0 :: xs.drop (k + 1) := by
  rw [List.drop_eq_getElem_cons h, List.getD_eq_getElem?_getD, List.getElem?_eq_getElem h]; rfl
set_option maxHeartbeats 4000000 in
set_option maxRecDepth 100000 in
theorem eqFold_calls (a0 a1 : ByteArray) (w : World) (hbd : a0.size ≤ 4611686018427387904) (hbd1 : a1.size ≤ 4611686018427387904) :
    Calls Try.prog 86 #[.string a0, .string a1] w fun e w' => e = .returned (.bool (eqFold a0 a1)) ∧ Drawn0 w w' := by
  obtain ⟨r, hr⟩ : ∃ r, eqFold a0 a1 = r := ⟨_, rfl⟩
  rw [hr]
  have HR := Lib.hid hr
  clear hr
  by_cases hs : a0.size = a1.size
  · obtain ⟨n, hn⟩ : ∃ n, a0.size = n := ⟨_, rfl⟩
    have hn1 : a1.size = n := by omega
    have HT : Hid (((ns a0).drop n).map up = ((ns a1).drop n).map up) := Lib.hid (by
      rw [List.drop_eq_nil_of_le (by rw [ns_length]; omega), List.drop_eq_nil_of_le (by rw [ns_length]; omega)])
    clear hs
    go_enter Try.func86, Try.ntmps86
    go_wp2
    go_loopw [5] (fun i wi => ∃ (j : Int) (m : Nat), wi = w.drewN m ∧ i = .int .i64 j ∧ -1 ≤ j ∧ j < n ∧ Hid (((ns a0).drop (j + 1).toNat).map up = ((ns a1).drop (j + 1).toNat).map up)) (fun i _ => (intOf i + 1).toNat)
    case atStart => exact ⟨(n : Int) - 1, 0, rfl, by go_num, by omega, by omega, Lib.hid (by rw [show ((n : Int) - 1 + 1).toNat = n by omega]; exact HT.out)⟩
    case round =>
      obtain ⟨j, m, rfl, rfl, hj1, hj2, HS⟩ := hrel
      by_cases hj : 0 ≤ j
      · obtain ⟨k, rfl⟩ := Int.eq_ofNat_of_zero_le hj
        have hk : k < n := by omega
        obtain ⟨c, hc⟩ : ∃ c, (ns a0).getD k 0 = c := ⟨_, rfl⟩
        obtain ⟨d, hd⟩ : ∃ d, (ns a1).getD k 0 = d := ⟨_, rfl⟩
        have hbc := Lib.hid ((bt_ns a0 k).trans hc)
        have hbd := Lib.hid ((bt_ns a1 k).trans hd)
        have hcr : 0 ≤ c ∧ c ≤ 255 := by
          refine ns_range a0 c ?_
          rw [← hc, List.getD_eq_getElem?_getD, List.getElem?_eq_getElem (by rw [ns_length]; omega)]
          exact List.getElem_mem _
        have hdr : 0 ≤ d ∧ d ≤ 255 := by
          refine ns_range a1 d ?_
          rw [← hd, List.getD_eq_getElem?_getD, List.getElem?_eq_getElem (by rw [ns_length]; omega)]
          exact List.getElem_mem _
        have HC := Lib.hid (drop_cons_ (ns a0) k (by rw [ns_length]; omega))
        have HD := Lib.hid (drop_cons_ (ns a1) k (by rw [ns_length]; omega))
        have Hc := Lib.hid hc
        have Hd := Lib.hid hd
        clear hc hd
        by_cases he : up c = up d
        · have heb : (up c != up d) = false := bne_eq_false_iff_eq.2 he
          have HS2 : Hid (((ns a0).drop (((k : Int) - 1 + 1).toNat)).map up = ((ns a1).drop (((k : Int) - 1 + 1).toNat)).map up) := Lib.hid (by
            have h := HS.out
            rw [show ((k : Int) + 1).toNat = k + 1 by omega] at h
            rw [show ((k : Int) - 1 + 1).toNat = k by omega, HC.out, HD.out, List.map_cons, List.map_cons, h, Hc.out, Hd.out, he])
          clear he
          go_wp2
          refine wp_region_quiet_lit (by kernel_rfl) (by kernel_rfl) ?_
          repeat (first
            | (go_big_quiet_want; refine quiet_index_tab 9 _ _ rfl a0 (k : Int) .i64 rfl rfl Try.underlying9 (by omega) (by omega) c hbc.out ?_; go_simp; go_big_quiet_on)
            | (go_big_quiet_want; refine quiet_index_tab 9 _ _ rfl a1 (k : Int) .i64 rfl rfl Try.underlying9 (by omega) (by omega) d hbd.out ?_; go_simp; go_big_quiet_on)
            | (go_big_quiet_want; refine quiet_index_fn 9 _ _ rfl _ c .u8 rfl rfl Try.underlying9 hcr.1 hcr.2 up ?tb ?_; (case tb => decide +kernel); go_simp; go_big_quiet_on)
            | (go_big_quiet_want; refine quiet_index_fn 9 _ _ rfl _ d .u8 rfl rfl Try.underlying9 hdr.1 hdr.2 up ?tb ?_; (case tb => decide +kernel); go_simp; go_big_quiet_on)
            | go_big_quiet_step (fail))
          refine wpQuiet_nil ?_
          rintro _ ⟨nq, rfl⟩
          try go_wp2
          go_roundw
          case rel => exact ⟨(k : Int) - 1, m + nq, rfl, by go_num, by omega, by omega, HS2⟩
          case measure => first | (simp [intOf]; done) | (simp [intOf]; omega)
        · have heb : (up c != up d) = true := bne_iff_ne.2 he
          have hrf : r = false := by
            rw [← HR.out]
            refine decide_eq_false (fun e => he ?_)
            have e1 := congrArg (fun l => l.getD k 0) e
            simp only [List.getD_eq_getElem?_getD, List.getElem?_map] at e1
            rw [List.getElem?_eq_getElem (by rw [ns_length]; omega), List.getElem?_eq_getElem (by rw [ns_length]; omega)] at e1
            have h1 := Hc.out
            have h2 := Hd.out
            rw [List.getD_eq_getElem?_getD, List.getElem?_eq_getElem (by rw [ns_length]; omega)] at h1 h2
            simp only [Option.map_some, Option.getD_some] at e1 h1 h2
            rw [← h1, ← h2]; exact e1
          subst hrf
          clear he
          go_wp2
          refine wp_region_quiet_lit (by kernel_rfl) (by kernel_rfl) ?_
          repeat (first
            | (go_big_quiet_want; refine quiet_index_tab 9 _ _ rfl a0 (k : Int) .i64 rfl rfl Try.underlying9 (by omega) (by omega) c hbc.out ?_; go_simp; go_big_quiet_on)
            | (go_big_quiet_want; refine quiet_index_tab 9 _ _ rfl a1 (k : Int) .i64 rfl rfl Try.underlying9 (by omega) (by omega) d hbd.out ?_; go_simp; go_big_quiet_on)
            | (go_big_quiet_want; refine quiet_index_fn 9 _ _ rfl _ c .u8 rfl rfl Try.underlying9 hcr.1 hcr.2 up ?tb ?_; (case tb => decide +kernel); go_simp; go_big_quiet_on)
            | (go_big_quiet_want; refine quiet_index_fn 9 _ _ rfl _ d .u8 rfl rfl Try.underlying9 hdr.1 hdr.2 up ?tb ?_; (case tb => decide +kernel); go_simp; go_big_quiet_on)
            | go_big_quiet_step (fail))
          refine wpQuiet_nil ?_
          rintro _ ⟨nq, rfl⟩
          try go_wp2
          go_ret
          exact ⟨rfl, by repeat (first | exact Drawn0.refl _ | exact ⟨_, rfl⟩ | apply Drawn0.step)⟩
      · have hrt : r = true := by
          rw [← HR.out]
          have h := HS.out
          rw [show (j + 1).toNat = 0 by omega] at h
          exact decide_eq_true h
        subst hrt
        go_wp2
        go_ret
        exact ⟨rfl, by repeat (first | exact Drawn0.refl _ | exact ⟨_, rfl⟩ | apply Drawn0.step)⟩
  · have hrf : r = false := by
      rw [← HR.out]
      refine decide_eq_false (fun e => hs ?_)
      have := congrArg List.length e
      simpa [ns_length] using this
    subst hrf
    go_enter Try.func86, Try.ntmps86
    go_wp2
    go_ret
    exact ⟨rfl, Drawn0.refl _⟩
theorem fiberutils_EqualFold.calls (a0 a1 : ByteArray) (r : Bool) (w : World) (h : fiberutils_EqualFold.f a0 a1 = some r) :
    Calls Try.prog 86 #[.string a0, .string a1] w fun e w' => e = .returned (.bool r) ∧ Drawn0 w w' := by
  unfold fiberutils_EqualFold.f at h
  by_cases hb : a0.size ≤ 4611686018427387904 ∧ a1.size ≤ 4611686018427387904
  · rw [if_pos hb] at h
    obtain rfl := Option.some.inj h
    exact eqFold_calls a0 a1 w hb.1 hb.2
  · rw [if_neg hb] at h
    cases h
end Go.Proofs.Ytkbmababljcabaa.Given
