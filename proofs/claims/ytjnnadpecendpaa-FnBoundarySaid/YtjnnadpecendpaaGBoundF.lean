/- impl.Boundary over the walk of MultipartFormBoundary: the boundary of a content type, for content types of the forms that the law asks. -/
import Derived.Test.YtjnnadpecendpaaGBound
set_option linter.unusedVariables false
set_option linter.unusedSimpArgs false
namespace Go.Proofs.Ytjnnadpecendpaa.Given
open Go.RowKit Go.Proofs.YtjnnadpecendpaaW.PrintWords Go.Proofs.YtjnnadpecendpaaW.PrintLast Go.Proofs.YtjnnadpecendpaaW.PrintMore Go.Proofs.Ytjnnadpecendpaa.Base Go.Proofs.Ytjnnadpecendpaa.Gv Go.Proofs.Ytjnnadpecendpaa.QA

/-- What is told of a content type: nothing of one that is no form; of a form with a boundary that is neither quoted nor empty its boundary. -/
def boundTold (L : List Int) : Option (List Int) :=
  if isPre preB L = false then some []
  else if decide (L.take 30 = preB ++ 59 :: 32 :: (preC ++ [61])) && decide ((L.drop 30).headD 34 ≠ 34) && decide (idx (L.drop 30) 59 ≠ 0) then some (boundOf (L.drop 30)) else none
theorem formB_told (w : World) (p n c : Nat) (A : Option Addr) (v15 : Value) (L t : List Int) (hx : ∀ x ∈ L, 0 ≤ x ∧ x ≤ 255) (ht : boundTold L = some t) (hlen : L.length ≤ 140737488355328) (hH : HRow w p (.slice A L.length c) v15) (hC : Kd.C (Kd.int .u8) w A L.length L) (hc : L.length ≤ c) :
    Calls Try.prog 35 #[.pointer (some ⟨p, 0, none⟩)] w fun e w' => ∃ A' n' c', e = .returned (.slice A' n' c') ∧ ReadsInt w' .u8 A' n' t ∧ Below w.heap.size w w' := by
  unfold boundTold at ht
  by_cases h1 : isPre preB L = false
  · rw [if_pos h1] at ht
    obtain rfl := Option.some.inj ht
    refine (formB_none w p c A v15 L hx hH hC hc h1).mono ?_
    rintro e w' ⟨rfl, hb⟩
    exact ⟨none, 0, 0, rfl, ⟨rfl, by decide, fun h => absurd h (Nat.lt_irrefl 0)⟩, hb⟩
  · rw [if_neg h1] at ht
    by_cases h2 : (decide (L.take 30 = preB ++ 59 :: 32 :: (preC ++ [61])) && decide ((L.drop 30).headD 34 ≠ 34) && decide (idx (L.drop 30) 59 ≠ 0)) = true
    · rw [if_pos h2] at ht
      obtain rfl := Option.some.inj ht
      simp only [Bool.and_eq_true, decide_eq_true_eq] at h2
      obtain ⟨⟨g1, g2⟩, g3⟩ := h2
      have hL : L = preB ++ 59 :: 32 :: (preC ++ 61 :: L.drop 30) := by
        conv => lhs; rw [← List.take_append_drop 30 L, g1]
        simp
      refine formB_some w p c A v15 L (L.drop 30) ((L.drop 30).headD 34) hx hL ?_ g2 g3 hlen hH hC hc
      cases hd : L.drop 30 with
      | nil => rw [hd] at g2; exact absurd rfl g2
      | cons a b => exact ⟨b, rfl⟩
    · rw [if_neg h2] at ht
      cases ht
set_option maxHeartbeats 1000000 in
set_option maxRecDepth 100000 in
theorem bound_calls (w : World) (s : ByteArray) (t : List Int) (hs : s.size ≤ 140737488355) (ht : boundTold (ns s) = some t) :
    Calls Try.prog 15 #[.string s] w fun e w' => e = .returned (.string (strOfNums t)) ∧ Below w.heap.size w w' := by
  obtain ⟨w1, hw1⟩ : ∃ W, w.alloc (.cells #[.bool false, .bool false, .bool false, .bool false, .int .i64 0, .slice none 0 0, .slice none 0 0, .slice none 0 0, .slice none 0 0, .slice none 0 0, .slice none 0 0, .slice none 0 0, .string ⟨#[]⟩, .slice none 0 0, .slice none 0 0, .slice none 0 0, .bool false, .pointer none, .slice none 0 0, .slice none 0 0] 64) = W := ⟨_, rfl⟩
  have hH1 : HRow w1 w.heap.size (.slice none 0 0) (.slice none 0 0) := by rw [← hw1]; exact hrow_new w
  have hz1 : w1.heap.size = w.heap.size + 1 := by rw [← hw1]; simp
  have hb1 : Below w.heap.size w w1 := by rw [← hw1]; exact (Below.refl _ _).alloc (Nat.le_refl _) _
  have hcv := Lib.run_convert_string_bytes (P := Try.prog) w1 9 56 5 s Try.underlying9 Try.underlying56 Try.underlying5
  have hcap := grownCap_ge w1 s.size 0 5
  have hbr := Br.conv w1 5 s
  have hbl := conv_below w1 5 s
  obtain ⟨c, hc⟩ : ∃ c, grownCap w1 s.size 0 5 = c := ⟨_, rfl⟩
  rw [hc] at hcv hcap
  obtain ⟨w2, hw2⟩ : ∃ W, Lib.bytesWorld w1 5 s = W := ⟨_, rfl⟩
  rw [hw2] at hcv hbr hbl
  have hC2 := hbr.C (by rw [ns_length]; omega : (ns s).length ≤ 9223372036854775807)
  have hr2 : ReadsInt w2 .u8 (some ⟨w1.heap.size, 0, none⟩) s.size (ns s) := by
    have := Kd.reads_of_C (enc := Value.int .u8) (d := (0 : Int)) hC2
    rwa [ns_length] at this
  have hH2 := hH1.below (by rw [← hz1]; exact hbl : Below (w.heap.size + 1) w1 w2)
  have hb2 : Below w.heap.size w w2 := hb1.trans (below_weaken_a (by omega) hbl)
  have HST := Lib.hid (setType_calls w2 w.heap.size (.slice none 0 0) (some ⟨w1.heap.size, 0, none⟩) s.size c (ns s) (by omega) hH2 hr2 (by have := hbl.size; omega))
  have HB2 := Lib.hid hb2
  have HT := Lib.hid ht
  rw [hz1] at hcv HST
  obtain ⟨T, hT⟩ : ∃ T, strOfNums t = T := ⟨_, rfl⟩
  rw [hT]
  have HTT := Lib.hid hT
  clear hH1 hz1 hb1 hbr hbl hcap hc hw2 hC2 hr2 hH2 hb2 ht hT
  go_enter Try.func15, Try.ntmps15
  go_wp2_with (first
    | (go_at_call 34
       refine HST.out.mono ?_
       rintro e w9 ⟨rfl, hb9, v9, hv9, ho9⟩
       obtain ⟨A9, k9, rfl⟩ := own_slice ho9
       have HB9 := Lib.hid (HB2.out.trans hb9)
       have HFB := Lib.hid (formB_told w9 w.heap.size (ns s).length k9 A9 (.slice none 0 0) (ns s) t (fun x hx => ns_range s x hx) HT.out (by rw [ns_length]; omega) hv9 (Kd.C_of_reads (h1 := fun _ => rfl) (own_reads' ho9)) (own_le ho9))
       clear hb9 hv9 ho9)
    | (go_at_call 35
       refine HFB.out.mono ?_
       rintro e w10 ⟨A', n', c', rfl, hr10, hb10⟩
       have HB10 := Lib.hid (below_step HB9.out hb10)
       have hcv2 := string_of_reads (P := Try.prog) (src := 56) (dst := 9) (c := c') Try.underlying56 Try.underlying5 Try.underlying9 hr10
       rw [HTT.out] at hcv2
       clear hr10 hb10))
  go_ret
  exact ⟨rfl, HB10.out⟩
def impl_Boundary.f (s : ByteArray) : Option ByteArray := if s.size ≤ 140737488355 then (boundTold (ns s)).bind fun t => some (strOfNums t) else none
theorem impl_Boundary.calls (a0 : ByteArray) (r : ByteArray) (w : World) (h : impl_Boundary.f a0 = some r) :
    Calls Try.prog 15 #[.string a0] w fun e w' => e = .returned (.string r) ∧ Below w.heap.size w w' := by
  unfold impl_Boundary.f at h
  by_cases hbd : a0.size ≤ 140737488355
  · rw [if_pos hbd] at h
    obtain ⟨t, ht, hr⟩ := Option.bind_eq_some_iff.1 h
    obtain rfl := Option.some.inj hr
    exact bound_calls w a0 t hbd ht
  · rw [if_neg hbd] at h
    cases h
end Go.Proofs.Ytjnnadpecendpaa.Given
