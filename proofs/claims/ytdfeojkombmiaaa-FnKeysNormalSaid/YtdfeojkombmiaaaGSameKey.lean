/- impl.SameKey: whether two keys are the same but for the case of their signs. -/
import Derived.Test.YtdfeojkombmiaaaGvRow
import Derived.Test.YtdfeojkombmiaaaQA14
set_option linter.unusedVariables false
namespace Go.Proofs.Ytdfeojkombmiaaa.Given
open Go.RowKit Go.Proofs.YtdfeojkombmiaaaW.PrintWords Go.Proofs.YtdfeojkombmiaaaW.PrintLast Go.Proofs.YtdfeojkombmiaaaW.PrintMore Go.Proofs.Ytdfeojkombmiaaa.Base Go.Proofs.Ytdfeojkombmiaaa.Gv Go.Proofs.Ytdfeojkombmiaaa.QA

def impl_SameKey.f (k : Nat) (a0 a1 : ByteArray) : Option Bool := if a0.size ≤ 4611686018427387904 ∧ a1.size ≤ 4611686018427387904 then hertzutils_CaseInsensitiveCompare.f k (ns a0) (ns a1) else none
theorem impl_SameKey.mono : ∀ a0 a1 k, LeO (impl_SameKey.f k a0 a1) (impl_SameKey.f (k + 1) a0 a1) := by
  intro a0 a1 k
  unfold impl_SameKey.f
  exact LeO.ite (hertzutils_CaseInsensitiveCompare.mono _ _ _) (LeO.none _)
set_option maxHeartbeats 1000000 in
theorem sameKey_calls (k : Nat) (a0 a1 : ByteArray) (r : Bool) (w : World) (h0 : a0.size ≤ 4611686018427387904) (h1 : a1.size ≤ 4611686018427387904) (h : hertzutils_CaseInsensitiveCompare.f k (ns a0) (ns a1) = some r) :
    Calls Try.prog 34 #[.string a0, .string a1] w fun e w' => e = .returned (.bool r) ∧ Below w.heap.size w w' := by
  have hcv := Lib.run_convert_string_bytes (P := Try.prog) w 9 34 5 a0 Try.underlying9 Try.underlying34 Try.underlying5
  have hcap := grownCap_ge w a0.size 0 5
  obtain ⟨c, hc⟩ : ∃ c, grownCap w a0.size 0 5 = c := ⟨_, rfl⟩
  rw [hc] at hcv hcap
  have hbr := Br.conv w 5 a0
  have hbl := conv_below w 5 a0
  have hsz := Lib.bytesWorld_size w 5 a0
  obtain ⟨W, hW⟩ : ∃ W, Lib.bytesWorld w 5 a0 = W := ⟨_, rfl⟩
  rw [hW] at hcv hbr hbl hsz
  have hcv1 := Lib.run_convert_string_bytes (P := Try.prog) W 9 34 5 a1 Try.underlying9 Try.underlying34 Try.underlying5
  have hcap1 := grownCap_ge W a1.size 0 5
  obtain ⟨c1, hc1⟩ : ∃ c1, grownCap W a1.size 0 5 = c1 := ⟨_, rfl⟩
  rw [hc1] at hcv1 hcap1
  have hbr1 := Br.conv W 5 a1
  have hbl1 := conv_below W 5 a1
  have hbr0 := hbr.below hbl1
  obtain ⟨W1, hW1⟩ : ∃ W1, Lib.bytesWorld W 5 a1 = W1 := ⟨_, rfl⟩
  rw [hW1] at hcv1 hbr1 hbl1 hbr0
  have hbl2 : Below w.heap.size w W1 := below_then hbl hbl.size hbl1
  obtain ⟨g1, hg1⟩ : ∃ g1, W.heap.size = g1 := ⟨_, rfl⟩
  rw [hg1] at hcv1 hbr1
  have hin := hertzutils_CaseInsensitiveCompare.calls k (some ⟨w.heap.size, 0, none⟩) c (ns a0) (some ⟨g1, 0, none⟩) c1 (ns a1) r W1 (hbr0.C (by rw [ns_length]; omega)) (by rw [ns_length]; exact hcap) (hbr1.C (by rw [ns_length]; omega)) (by rw [ns_length]; exact hcap1) h
  rw [ns_length, ns_length] at hin
  have HIN := Lib.hid hin
  have HL := Lib.hid hbl2
  clear hc hW hc1 hW1 hg1 hbr hbr0 hbr1 hbl hbl1 hbl2 hin hcap hcap1 hsz h
  go_enter Try.func34, Try.ntmps34
  go_wp2_with fail
  refine (HIN.out).mono ?_
  rintro e w' ⟨rfl, ⟨nd, rfl⟩⟩
  go_wp2
  go_ret
  exact ⟨rfl, pw_below_drewN HL.out nd⟩
theorem impl_SameKey.calls (k : Nat) (a0 a1 : ByteArray) (r : Bool) (w : World) (h : impl_SameKey.f k a0 a1 = some r) :
    Calls Try.prog 34 #[.string a0, .string a1] w fun e w' => e = .returned (.bool r) ∧ Below w.heap.size w w' := by
  unfold impl_SameKey.f at h
  by_cases hbd : a0.size ≤ 4611686018427387904 ∧ a1.size ≤ 4611686018427387904
  · rw [if_pos hbd] at h
    exact sameKey_calls k a0 a1 r w hbd.1 hbd.2 h
  · rw [if_neg hbd] at h
    cases h
end Go.Proofs.Ytdfeojkombmiaaa.Given
