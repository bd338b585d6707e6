/- low: a text with ASCII's capitals as small letters. -/
import Derived.Test.YtjnnadpecendpaaGvRow
import Derived.Test.YtjnnadpecendpaaGvNk
set_option linter.unusedVariables false
namespace Go.Proofs.Ytjnnadpecendpaa.Given
open Go.RowKit Go.Proofs.YtjnnadpecendpaaW.PrintWords Go.Proofs.YtjnnadpecendpaaW.PrintLast Go.Proofs.YtjnnadpecendpaaW.PrintMore Go.Proofs.Ytjnnadpecendpaa.Base Go.Proofs.Ytjnnadpecendpaa.Gv

def laws_low.f (a0 : ByteArray) : Option ByteArray := if a0.size ≤ 4611686018427387904 then some (strOfNums ((ns a0).map lo)) else none
/-- The first k bytes small, the others as they were. -/
def loTo (xs : List Int) (k : Nat) : List Int := (xs.take k).map lo ++ xs.drop k
theorem loTo_length (xs : List Int) (k : Nat) : (loTo xs k).length = xs.length := by simp [loTo]; omega
theorem loTo_zero (xs : List Int) : loTo xs 0 = xs := by simp [loTo]
theorem loTo_all (xs : List Int) : loTo xs xs.length = xs.map lo := by simp [loTo]
theorem loTo_at (xs : List Int) (k : Nat) (h : k < xs.length) : (loTo xs k).getD k 0 = xs.getD k 0 := by
  rw [List.getD_eq_getElem?_getD, List.getD_eq_getElem?_getD, loTo, List.getElem?_append_right (by simp; omega)]
  simp [Nat.min_eq_left (Nat.le_of_lt h)]
theorem loTo_succ (xs : List Int) (k : Nat) (h : k < xs.length) : loTo xs (k + 1) = (loTo xs k).set k (lo (xs.getD k 0)) := by
  have hl : ((xs.take k).map lo).length = k := by simp; omega
  have e2 : xs.drop k = xs[k] :: xs.drop (k + 1) := List.drop_eq_getElem_cons h
  have e3 : xs.getD k 0 = xs[k] := by rw [List.getD_eq_getElem?_getD, List.getElem?_eq_getElem h]; rfl
  unfold loTo
  rw [List.set_append_right _ _ (by omega), hl, Nat.sub_self, e2, List.set_cons_zero, e3, List.take_succ_eq_append_getElem h, List.map_append, List.append_assoc]
  rfl
theorem loTo_keep (xs : List Int) (k : Nat) (h : k < xs.length) (hx : lo (xs.getD k 0) = xs.getD k 0) : loTo xs (k + 1) = loTo xs k := by
  have hl : k < (loTo xs k).length := by rw [loTo_length]; exact h
  have e : (loTo xs k)[k] = xs.getD k 0 := by
    have := loTo_at xs k h
    rw [List.getD_eq_getElem?_getD, List.getElem?_eq_getElem hl] at this
    exact this
  rw [loTo_succ xs k h, hx, ← e, List.set_getElem_self]
set_option maxHeartbeats 1000000 in
theorem low_calls (a0 : ByteArray) (w : World) (hbd : a0.size ≤ 4611686018427387904) :
    Calls Try.prog 14 #[.string a0] w fun e w' => e = .returned (.string (strOfNums ((ns a0).map lo))) ∧ Below w.heap.size w w' := by
  have hcv := Lib.run_convert_string_bytes (P := Try.prog) w 9 56 5 a0 Try.underlying9 Try.underlying56 Try.underlying5
  have hbr := Br.conv w 5 a0
  have hbl := conv_below w 5 a0
  have hsz := Lib.bytesWorld_size w 5 a0
  obtain ⟨c, hc⟩ : ∃ c, grownCap w a0.size 0 5 = c := ⟨_, rfl⟩
  rw [hc] at hcv
  clear hc
  obtain ⟨W, hW⟩ : ∃ W, Lib.bytesWorld w 5 a0 = W := ⟨_, rfl⟩
  rw [hW] at hcv hbr hbl hsz
  clear hW
  have HB := Lib.hid hbr
  have HL := Lib.hid hbl
  have HS := Lib.hid hsz
  clear hbr hbl hsz
  go_enter Try.func14, Try.ntmps14
  go_wp2
  go_loopw [9] (fun i wr => ∃ k : Nat, k ≤ a0.size ∧ i = .int .i64 k ∧ Hid (Br wr 5 w.heap.size (loTo (ns a0) k)) ∧ Hid (Below w.heap.size w wr)) (fun i _ => a0.size - (intOf i).toNat)
  case atStart => exact ⟨0, Nat.zero_le _, rfl, Lib.hid (by rw [loTo_zero]; exact HB.out), HL⟩
  case round =>
    obtain ⟨k, hk, rfl, HBr, HBl⟩ := hrel
    by_cases hlt : k < a0.size
    · have hlen : k < (loTo (ns a0) k).length := by rw [loTo_length, ns_length]; exact hlt
      have hcell := HBr.out.cell k hlen
      have hfree := HBr.out.free k hlen
      have hset := Lib.hid (fun v => HBr.out.set k v)
      rw [loTo_at _ _ (by rw [ns_length]; exact hlt)] at hcell
      have hrg := ns_range a0 ((ns a0).getD k 0) (by
        have hlt' : k < (ns a0).length := by rw [ns_length]; exact hlt
        rw [List.getD_eq_getElem?_getD, List.getElem?_eq_getElem hlt']; exact List.getElem_mem hlt')
      have hsucc := Lib.hid (loTo_succ (ns a0) k (by rw [ns_length]; exact hlt))
      obtain ⟨x, hx⟩ : ∃ x, (ns a0).getD k 0 = x := ⟨_, rfl⟩
      have hkeep := Lib.hid (loTo_keep (ns a0) k (by rw [ns_length]; exact hlt))
      have hkeep' : Hid (lo x = x → loTo (ns a0) (k + 1) = loTo (ns a0) k) := Lib.hid (by rw [← hx]; exact hkeep.out)
      have hsucc' : Hid (loTo (ns a0) (k + 1) = (loTo (ns a0) k).set k (lo x)) := Lib.hid (by rw [hsucc.out, hx])
      rw [hx] at hcell hrg
      clear hsucc hkeep hx
      by_cases c1 : 65 ≤ x
      · by_cases c2 : x ≤ 90
        · have hv : Hid (lo x = x + 32) := Lib.hid (if_pos ⟨c1, c2⟩)
          go_wp2
          go_roundw
          case rel => exact ⟨k + 1, by omega, by go_num, Lib.hid (by rw [hsucc'.out, hv.out]; exact hset.out _), Lib.hid (HBl.out.setCell (Nat.le_refl _) _)⟩
          case measure => simp [intOf]; omega
        · have hv : Hid (lo x = x) := Lib.hid (if_neg (by omega))
          go_wp2
          go_roundw
          case rel => exact ⟨k + 1, by omega, by go_num, Lib.hid (by rw [hkeep'.out hv.out]; exact HBr.out), HBl⟩
          case measure => simp [intOf]; omega
      · have hv : Hid (lo x = x) := Lib.hid (if_neg (by omega))
        go_wp2
        go_roundw
        case rel => exact ⟨k + 1, by omega, by go_num, Lib.hid (by rw [hkeep'.out hv.out]; exact HBr.out), HBl⟩
        case measure => simp [intOf]; omega
    · have hkk : k = a0.size := by omega
      have htx := HBr.out.text (P := Try.prog) (src := 56) (dst := 9) Try.underlying56 Try.underlying5 Try.underlying9 c
      rw [loTo_length, ns_length] at htx
      have hall : Hid (loTo (ns a0) k = (ns a0).map lo) := Lib.hid (by rw [hkk, ← ns_length, loTo_all])
      clear hkk
      go_wp2
      go_ret
      exact ⟨by rw [hall.out]; rfl, HBl.out⟩
theorem laws_low.calls (a0 : ByteArray) (r : ByteArray) (w : World) (h : laws_low.f a0 = some r) :
    Calls Try.prog 14 #[.string a0] w fun e w' => e = .returned (.string r) ∧ Below w.heap.size w w' := by
  unfold laws_low.f at h
  by_cases hbd : a0.size ≤ 4611686018427387904
  · rw [if_pos hbd] at h
    obtain rfl : strOfNums ((ns a0).map lo) = r := Option.some.inj h
    exact low_calls a0 w hbd
  · rw [if_neg hbd] at h
    cases h
end Go.Proofs.Ytjnnadpecendpaa.Given
