/- Texts of this claim, one behind the other (merged by wip/prune.py of this repo, without what the proof does not use): RowRecG, RowAcc. -/
import Derived.Test.YtgmjaggkiifdjaaZT5
import Derived.ChangeArms
import Derived.ChangeSame
import Derived.DataElems
import Derived.SizedLaws
import Derived.SliceStrings
set_option linter.unusedVariables false
set_option linter.unusedSimpArgs false
namespace Go.Proofs.Ytgmjaggkiifdjaa.RowX
open Go.ChangeShapes Go.WideShapes Go.Proofs.YtgmjaggkiifdjaaW.PrintWords Go.Proofs.Ytgmjaggkiifdjaa.QA
theorem cells_at {w : World} {base : Nat} {a : Addr} {n : Nat} {cs : List Value} (h : w.cells? base a n = some cs) : cs.length = n ∧ ∀ j, j < n → w.cell? (a.add j) = cs[j]? := by
  unfold World.cells? at h
  split at h
  · exact ⟨by simpa using mapM_some_length h, fun j hj => mapM_some_get h j j (by simp [hj])⟩
  · cases h
theorem open_recs {α H : Type} (d : Kd α) (z : α) (ok : α → Prop) {enc : TypeId × Value → H} {P : Program} {W : World} {base : Nat} {spare : Nat → Bool} {held : Bool} {t e : TypeId} {a : Option Addr} {len cap : Nat} {dd : DataW H} {ps : List MemPlace} {ts : List TypeId} {ds : List (DataW H)} {j : Nat} (B : Nat)
    (hsz : (DataW.weightsEach P ts ds).all (· ≤ reachBytes) = true) (ht : ts[j]? = some t) (hd : ds[j]? = some dd) (hu : P.underlying t = some (.slice e)) (hc : P.cellsOf e = d.sz) (hB : P.bytesOf e = B)
    (hK : ∀ n cs y, cs.length = d.sz → DataW.trod enc P W base spare held n e cs = some y → ∃ x, d.K W x cs ∧ ok x)
    (h : DataW.Trod enc P W base spare held t (.slice a len cap) dd ps) :
    ∃ l : List α, len = l.length ∧ Kd.C d W a l.length l ∧ l.length ≤ cap ∧ l.length * B ≤ 140737488351232 ∧ ∀ x ∈ l, ok x := by
  obtain ⟨fuel, hf⟩ := h
  rcases DataW.trod_slice hu hf with ⟨hcs, _⟩ | ⟨ad, len', cap', elems, rest, n, _, hcs, hx, _, hl, hm, hlen, hel, _, _⟩
  · simp [Value.cells] at hcs
    obtain ⟨rfl, rfl, rfl⟩ := hcs
    exact ⟨[], rfl, ⟨rfl, by simp, fun hp => by simp at hp⟩, by simp, by simp, by simp⟩
  · simp [Value.cells] at hcs
    obtain ⟨rfl, rfl, rfl⟩ := hcs
    obtain ⟨hx, _⟩ := Prod.mk.inj hx
    subst hx
    have zz := sized_slice hsz ht hd hu
    rw [hB] at zz
    simp only [List.length_map] at zz
    have hr : reachBytes = 140737488351232 := by decide
    rw [hr] at zz
    have each : ∀ i, ∃ x : α, i < len → (∃ c, c.length = d.sz ∧ d.K W x c ∧ ∀ j u, c[j]? = some u → W.cell? (ad.add (i * d.sz + j)) = some u) ∧ ok x := by
      intro i
      by_cases hi : i < len
      · have h1 := hel i hi
        rw [List.getElem?_eq_getElem (by omega), hc, Option.bind_eq_some_iff] at h1
        obtain ⟨cs, h2, h3⟩ := h1
        obtain ⟨g1, g2⟩ := cells_at h2
        obtain ⟨x, hx1, hx2⟩ := hK n cs _ g1 h3
        refine ⟨x, fun _ => ⟨⟨cs, g1, hx1, fun j u hj => ?_⟩, hx2⟩⟩
        have hlt : j < d.sz := by have := (List.getElem?_eq_some_iff.1 hj).1; omega
        rw [← hj, ← g2 j hlt]
        congr 1
        exact (Addr.add_add ad (i * d.sz) j).symm
      · exact ⟨z, fun h => absurd h hi⟩
    obtain ⟨g, hg⟩ := Classical.axiomOfChoice each
    have hz2 : len * B ≤ 140737488351232 := Nat.le_trans (Nat.mul_le_mul_right _ (by omega)) zz
    have hll : ((List.range len).map g).length = len := by simp
    refine ⟨(List.range len).map g, hll.symm, ⟨rfl, ?_, fun _ => ⟨ad, rfl, fun i p hp => ?_⟩⟩, by rw [hll]; exact hl, by rw [hll]; exact hz2, fun x hx => ?_⟩
    · rw [hll]
      have : maxLen ≤ 9223372036854775807 := by decide
      omega
    · have hlt : i < len := by have := (List.getElem?_eq_some_iff.1 hp).1; omega
      rw [List.getElem?_map, List.getElem?_range hlt] at hp
      simp only [Option.map_some, Option.some.injEq] at hp
      subst hp
      obtain ⟨⟨c, c1, c2, c3⟩, _⟩ := hg i hlt
      exact ⟨c, c1, c2, c3⟩
    · obtain ⟨i, hi, rfl⟩ := List.mem_map.1 hx
      exact (hg i (List.mem_range.1 hi)).2
theorem list5 {α : Type} {l : List α} (h : l.length = 5) : ∃ a b c d e, l = [a, b, c, d, e] := by
  match l, h with
  | [a, b, c, d, e], _ => exact ⟨a, b, c, d, e, rfl⟩
theorem trod_struct5 {H : Type} {enc : TypeId × Value → H} {P : Program} {w : World} {base : Nat} {spare : Nat → Bool} {held : Bool} {t : TypeId} {f0 f1 f2 f3 f4 : Field} {fuel : Nat} {cs : List Value} {x : DataW H × List MemPlace} (ht : P.underlying t = some (.struct #[f0, f1, f2, f3, f4])) (h : DataW.trod enc P w base spare held fuel t cs = some x) :
    ∃ y0 y1 y2 y3 y4 n, DataW.trod enc P w base spare held n f0.type ((cs.drop f0.offset).take (P.cellsOf f0.type)) = some y0 ∧
      DataW.trod enc P w base spare held n f1.type ((cs.drop f1.offset).take (P.cellsOf f1.type)) = some y1 ∧ DataW.trod enc P w base spare held n f2.type ((cs.drop f2.offset).take (P.cellsOf f2.type)) = some y2 ∧
      DataW.trod enc P w base spare held n f3.type ((cs.drop f3.offset).take (P.cellsOf f3.type)) = some y3 ∧ DataW.trod enc P w base spare held n f4.type ((cs.drop f4.offset).take (P.cellsOf f4.type)) = some y4 := by
  obtain ⟨xs, n, _, rfl, hl, hlen, hf⟩ := DataW.trod_struct ht h
  match xs, hlen with
  | [y0, y1, y2, y3, y4], _ => exact ⟨y0, y1, y2, y3, y4, n, by simpa using hf 0 f0 rfl, by simpa using hf 1 f1 rfl, by simpa using hf 2 f2 rfl, by simpa using hf 3 f3 rfl, by simpa using hf 4 f4 rfl⟩
theorem open_49 {H : Type} {enc : TypeId × Value → H} {W : World} {base : Nat} {spare : Nat → Bool} {held : Bool} {t : TypeId} {a : Option Addr} {len cap : Nat} {dd : DataW H} {ps : List MemPlace} {ts : List TypeId} {ds : List (DataW H)} {j : Nat}
    (hsz : (DataW.weightsEach Try.prog ts ds).all (· ≤ reachBytes) = true) (ht : ts[j]? = some t) (hd : ds[j]? = some dd) (hu : Try.prog.underlying t = some (.slice 49))
    (h : DataW.Trod enc Try.prog W base spare held t (.slice a len cap) dd ps) :
    ∃ l : List S49, len = l.length ∧ Kd.C k49 W a l.length l ∧ l.length ≤ cap ∧ l.length * 56 ≤ 140737488351232 := by
  obtain ⟨l, h1, h2, h3, h4, _⟩ := open_recs k49 z49 (fun _ => True) 56 hsz ht hd hu (by kernel_rfl) (by kernel_rfl) (fun n cs y hcs hy => by
    obtain ⟨y0, y1, y2, y3, y4, m, e0, e1, e2, e3, e4⟩ := trod_struct5 Try.underlying49 hy
    obtain ⟨s0, g0, _, _⟩ := DataW.trod_string Try.underlying9 e0
    obtain ⟨n1, g1, _, _⟩ := DataW.trod_int Try.underlying3 e1
    obtain ⟨n2, g2, _, _⟩ := DataW.trod_int Try.underlying3 e2
    obtain ⟨n3, g3, _, _⟩ := DataW.trod_int Try.underlying3 e3
    obtain ⟨s4, g4, _, _⟩ := DataW.trod_string Try.underlying9 e4
    have q0 : Try.prog.cellsOf 9 = 1 := by kernel_rfl
    have q1 : Try.prog.cellsOf 3 = 1 := by kernel_rfl
    obtain ⟨c0, c1, c2, c3, c4, rfl⟩ : ∃ c0 c1 c2 c3 c4, cs = [c0, c1, c2, c3, c4] := by
      exact list5 hcs
    rw [q0] at g0 g4
    rw [q1] at g1 g2 g3
    obtain rfl : c0 = .string s0 := List.head_eq_of_cons_eq (show [c0] = [Value.string s0] from g0)
    obtain rfl : c1 = .int .i64 n1 := List.head_eq_of_cons_eq (show [c1] = [Value.int .i64 n1] from g1)
    obtain rfl : c2 = .int .i64 n2 := List.head_eq_of_cons_eq (show [c2] = [Value.int .i64 n2] from g2)
    obtain rfl : c3 = .int .i64 n3 := List.head_eq_of_cons_eq (show [c3] = [Value.int .i64 n3] from g3)
    obtain rfl : c4 = .string s4 := List.head_eq_of_cons_eq (show [c4] = [Value.string s4] from g4)
    exact ⟨⟨s0, n1, n2, n3, s4⟩, k49_mk W ⟨s0, n1, n2, n3, s4⟩, trivial⟩) h
  exact ⟨l, h1, h2, h3, h4⟩
end Go.Proofs.Ytgmjaggkiifdjaa.RowX
