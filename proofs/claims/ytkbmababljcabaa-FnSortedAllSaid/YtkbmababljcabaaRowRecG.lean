/- A row's slice of pairs that came in, as the printed contracts read it. -/
import Derived.SizedLaws
import Derived.SliceStrings
import Derived.ChangeSame
import Derived.ChangeArms
import Derived.DataElems
import Derived.Test.YtkbmababljcabaaQA0
namespace Go.Proofs.Ytkbmababljcabaa.RowX
open Go.ChangeShapes Go.WideShapes Go.Proofs.YtkbmababljcabaaW.PrintWords Go.Proofs.Ytkbmababljcabaa.QA
theorem cells_at {w : World} {base : Nat} {a : Addr} {n : Nat} {cs : List Value} (h : w.cells? base a n = some cs) : cs.length = n ∧ ∀ j, j < n → w.cell? (a.add j) = cs[j]? := by
  unfold World.cells? at h
  split at h
  · exact ⟨by simpa using mapM_some_length h, fun j hj => mapM_some_get h j j (by simp [hj])⟩
  · cases h
theorem open_recs {α H : Type} (d : Kd α) (z : α) (ok : α → Prop) {enc : TypeId × Value → H} {P : Program} {W : World} {base : Nat} {spare : Nat → Bool} {held : Bool} {t e : TypeId} {a : Option Addr} {len cap : Nat} {dd : DataW H} {ps : List MemPlace} {ts : List TypeId} {ds : List (DataW H)} {j : Nat} (B : Nat)
    (hsz : (DataW.weightsEach P ts ds).all (· ≤ reachBytes) = true) (ht : ts[j]? = some t) (hd : ds[j]? = some dd) (hu : P.underlying t = some (.slice e)) (hc : P.cellsOf e = d.sz) (hB : P.bytesOf e = B)
    (hK : ∀ n cs y, cs.length = d.sz → DataW.trod enc P W base spare held n e cs = some y → ∃ x, d.K W x cs ∧ ok x)
    (h : DataW.Trod enc P W base spare held t (.slice a len cap) dd ps) :
    ∃ l : List α, len = l.length ∧ Kd.C d W a l.length l ∧ l.length ≤ cap ∧ l.length * B ≤ 140737488351232 ∧ ∀ x ∈ l, ok x := by
  obtain ⟨fuel, hf⟩ := h
  rcases DataW.trod_slice hu hf with ⟨hcs, _⟩ | ⟨ad, len', cap', elems, rest, n, _, hcs, hx, _, hl, hm, hlen, hel, _, _⟩
  · simp [Value.cells] at hcs
    obtain ⟨rfl, rfl, rfl⟩ := hcs
    exact ⟨[], rfl, ⟨rfl, by simp, fun hp => by simp at hp⟩, by simp, by simp, by simp⟩
  · simp [Value.cells] at hcs
    obtain ⟨rfl, rfl, rfl⟩ := hcs
    obtain ⟨hx, _⟩ := Prod.mk.inj hx
    subst hx
    have zz := sized_slice hsz ht hd hu
    rw [hB] at zz
    simp only [List.length_map] at zz
    have hr : reachBytes = 140737488351232 := by decide
    rw [hr] at zz
    have each : ∀ i, ∃ x : α, i < len → (∃ c, c.length = d.sz ∧ d.K W x c ∧ ∀ j u, c[j]? = some u → W.cell? (ad.add (i * d.sz + j)) = some u) ∧ ok x := by
      intro i
      by_cases hi : i < len
      · have h1 := hel i hi
        rw [List.getElem?_eq_getElem (by omega), hc, Option.bind_eq_some_iff] at h1
        obtain ⟨cs, h2, h3⟩ := h1
        obtain ⟨g1, g2⟩ := cells_at h2
        obtain ⟨x, hx1, hx2⟩ := hK n cs _ g1 h3
        refine ⟨x, fun _ => ⟨⟨cs, g1, hx1, fun j u hj => ?_⟩, hx2⟩⟩
        have hlt : j < d.sz := by have := (List.getElem?_eq_some_iff.1 hj).1; omega
        rw [← hj, ← g2 j hlt]
        congr 1
        exact (Addr.add_add ad (i * d.sz) j).symm
      · exact ⟨z, fun h => absurd h hi⟩
    obtain ⟨g, hg⟩ := Classical.axiomOfChoice each
    have hz2 : len * B ≤ 140737488351232 := Nat.le_trans (Nat.mul_le_mul_right _ (by omega)) zz
    have hll : ((List.range len).map g).length = len := by simp
    refine ⟨(List.range len).map g, hll.symm, ⟨rfl, ?_, fun _ => ⟨ad, rfl, fun i p hp => ?_⟩⟩, by rw [hll]; exact hl, by rw [hll]; exact hz2, fun x hx => ?_⟩
    · rw [hll]
      have : maxLen ≤ 9223372036854775807 := by decide
      omega
    · have hlt : i < len := by have := (List.getElem?_eq_some_iff.1 hp).1; omega
      rw [List.getElem?_map, List.getElem?_range hlt] at hp
      simp only [Option.map_some, Option.some.injEq] at hp
      subst hp
      obtain ⟨⟨c, c1, c2, c3⟩, _⟩ := hg i hlt
      exact ⟨c, c1, c2, c3⟩
    · obtain ⟨i, hi, rfl⟩ := List.mem_map.1 hx
      exact (hg i (List.mem_range.1 hi)).2
end Go.Proofs.Ytkbmababljcabaa.RowX
