/- impl.NormalKey: the normal form of a key; laws.normal: the same by its own loop. -/
import Derived.Test.YtdfeojkombmiaaaGvNhk
import Derived.Test.YtdfeojkombmiaaaGLow
set_option linter.unusedVariables false
namespace Go.Proofs.Ytdfeojkombmiaaa.Given
open Go.RowKit Go.Proofs.YtdfeojkombmiaaaW.PrintWords Go.Proofs.YtdfeojkombmiaaaW.PrintLast Go.Proofs.YtdfeojkombmiaaaW.PrintMore Go.Proofs.Ytdfeojkombmiaaa.Base Go.Proofs.Ytdfeojkombmiaaa.Gv

def impl_NormalKey.f (a0 : ByteArray) : Option ByteArray := if a0.size ≤ 4611686018427387904 then some (strOfNums (nk (ns a0))) else none
set_option maxHeartbeats 1000000 in
theorem normalKey_calls (a0 : ByteArray) (w : World) (hbd : a0.size ≤ 4611686018427387904) :
    Calls Try.prog 33 #[.string a0] w fun e w' => e = .returned (.string (strOfNums (nk (ns a0)))) ∧ Below w.heap.size w w' := by
  have hcv := Lib.run_convert_string_bytes (P := Try.prog) w 9 34 5 a0 Try.underlying9 Try.underlying34 Try.underlying5
  have hbr := Br.conv w 5 a0
  have hbl := conv_below w 5 a0
  obtain ⟨c, hc⟩ : ∃ c, grownCap w a0.size 0 5 = c := ⟨_, rfl⟩
  rw [hc] at hcv
  clear hc
  obtain ⟨W, hW⟩ : ∃ W, Lib.bytesWorld w 5 a0 = W := ⟨_, rfl⟩
  rw [hW] at hcv hbr hbl
  clear hW
  have HB := Lib.hid hbr
  have HL := Lib.hid hbl
  have hlen : Hid ((ns a0).length = a0.size) := Lib.hid (ns_length a0)
  have hlen2 : Hid ((nk (ns a0)).length = a0.size) := Lib.hid (by rw [nk_length, ns_length])
  have hrg : Hid (∀ x ∈ ns a0, 0 ≤ x ∧ x ≤ 255) := Lib.hid (fun x hx => ns_range a0 x hx)
  clear hbr hbl
  go_enter Try.func33, Try.ntmps33
  go_wp2_with fail
  refine (nhk_calls W w.heap.size a0.size c (ns a0) hlen.out hrg.out hbd HB.out).mono ?_
  rintro e w' ⟨rfl, hb', ho⟩
  have HB' := Lib.hid hb'
  have HO := Lib.hid ho
  have htx := hb'.text (P := Try.prog) (src := 34) (dst := 9) Try.underlying34 Try.underlying5 Try.underlying9 c
  rw [hlen2.out] at htx
  clear hb' ho
  go_wp2
  go_ret
  exact ⟨rfl, HO.out.below HL.out (Nat.le_refl _)⟩
theorem impl_NormalKey.calls (a0 : ByteArray) (r : ByteArray) (w : World) (h : impl_NormalKey.f a0 = some r) :
    Calls Try.prog 33 #[.string a0] w fun e w' => e = .returned (.string r) ∧ Below w.heap.size w w' := by
  unfold impl_NormalKey.f at h
  by_cases hbd : a0.size ≤ 4611686018427387904
  · rw [if_pos hbd] at h
    obtain rfl : strOfNums (nk (ns a0)) = r := Option.some.inj h
    exact normalKey_calls a0 w hbd
  · rw [if_neg hbd] at h
    cases h
end Go.Proofs.Ytdfeojkombmiaaa.Given
