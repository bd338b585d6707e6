/- Texts of this claim, one behind the other (merged by wip/prune.py of this repo, without what the proof does not use): RowStr. -/
import Derived.Test.YtcbpbmflgcgmaaaDoorZA3
import Derived.SizedLaws
import Derived.SliceStrings
set_option linter.unusedVariables false
set_option linter.unusedSimpArgs false
namespace Go.Proofs.YtcbpbmflgcgmaaaDoor.RowX
open Go.ChangeShapes Go.WideShapes Go.Proofs.YtcbpbmflgcgmaaaDoorW.PrintWords
theorem open_strs_C {H : Type} {enc : TypeId × Value → H} {P : Program} {W : World} {base : Nat} {spare : Nat → Bool} {held : Bool} {t e : TypeId} {a : Option Addr} {len cap : Nat} {d : DataW H} {ps : List MemPlace} {ts : List TypeId} {ds : List (DataW H)} {j : Nat}
    (hsz : (DataW.weightsEach P ts ds).all (· ≤ reachBytes) = true) (ht : ts[j]? = some t) (hd : ds[j]? = some d) (hu : P.underlying t = some (.slice e)) (he : P.underlying e = some .string) (hc : P.cellsOf e = 1) (hB : P.bytesOf e = 16)
    (h : DataW.Trod enc P W base spare held t (.slice a len cap) d ps) :
    ∃ l : List ByteArray, len = l.length ∧ Kd.C Kd.string W a l.length l ∧ l.length ≤ cap ∧ l.length * 16 ≤ 140737488351232 := by
  obtain ⟨fuel, hf⟩ := h
  rcases open_strings hu he hc hf with ⟨hcs, _⟩ | ⟨x, l, c, ss, hcs, _, hl, hm, hz, hx, hcell, _⟩
  · simp [Value.cells] at hcs
    obtain ⟨rfl, rfl, rfl⟩ := hcs
    refine ⟨[], rfl, Kd.C_of_reads (d := ByteArray.empty) (h1 := fun _ => rfl) ⟨rfl, by simp, fun hp => by simp at hp⟩, by simp, by simp⟩
  · simp [Value.cells] at hcs
    obtain ⟨rfl, rfl, rfl⟩ := hcs
    obtain ⟨hx, _⟩ := Prod.mk.inj hx
    subst hx
    have z := sized_slice hsz ht hd hu
    rw [hB] at z
    have hl2 : len ≤ ss.length := by
      rw [hz]
      split
      · exact hl
      · exact Nat.le_refl _
    have hlen : (ss.take len).length = len := by rw [List.length_take]; omega
    have h1 : (ChangeShapes.strs (H := H) (ss.take len)).length + (ChangeShapes.strs (H := H) (ss.drop len)).length = ss.length := by
      simp [ChangeShapes.strs]
      omega
    rw [h1] at z
    have hr : reachBytes = 140737488351232 := by decide
    have hz2 : len * 16 ≤ 140737488351232 := by
      have : len * 16 ≤ ss.length * 16 := Nat.mul_le_mul_right _ hl2
      omega
    refine ⟨ss.take len, hlen.symm, Kd.C_of_reads (d := ByteArray.empty) (h1 := fun _ => rfl) ?_, by rw [hlen]; exact hl, by rw [hlen]; exact hz2⟩
    rw [hlen]
    refine ⟨hlen, by omega, fun _ => ⟨x, rfl, fun i hi => ?_⟩⟩
    rw [hcell i (by omega)]
    simp [List.getD_eq_getElem?_getD, hi]
end Go.Proofs.YtcbpbmflgcgmaaaDoor.RowX
