/- A row's slice of accepted types that came in, as the printed contracts read it. -/
import Derived.Test.YtkbmababljcabaaRowRecG
namespace Go.Proofs.Ytkbmababljcabaa.RowX
open Go.ChangeShapes Go.WideShapes Go.Proofs.YtkbmababljcabaaW.PrintWords Go.Proofs.Ytkbmababljcabaa.QA
theorem list5 {α : Type} {l : List α} (h : l.length = 5) : ∃ a b c d e, l = [a, b, c, d, e] := by
  match l, h with
  | [a, b, c, d, e], _ => exact ⟨a, b, c, d, e, rfl⟩
theorem trod_struct5 {H : Type} {enc : TypeId × Value → H} {P : Program} {w : World} {base : Nat} {spare : Nat → Bool} {held : Bool} {t : TypeId} {f0 f1 f2 f3 f4 : Field} {fuel : Nat} {cs : List Value} {x : DataW H × List MemPlace} (ht : P.underlying t = some (.struct #[f0, f1, f2, f3, f4])) (h : DataW.trod enc P w base spare held fuel t cs = some x) :
    ∃ y0 y1 y2 y3 y4 n, DataW.trod enc P w base spare held n f0.type ((cs.drop f0.offset).take (P.cellsOf f0.type)) = some y0 ∧
      DataW.trod enc P w base spare held n f1.type ((cs.drop f1.offset).take (P.cellsOf f1.type)) = some y1 ∧ DataW.trod enc P w base spare held n f2.type ((cs.drop f2.offset).take (P.cellsOf f2.type)) = some y2 ∧
      DataW.trod enc P w base spare held n f3.type ((cs.drop f3.offset).take (P.cellsOf f3.type)) = some y3 ∧ DataW.trod enc P w base spare held n f4.type ((cs.drop f4.offset).take (P.cellsOf f4.type)) = some y4 := by
  obtain ⟨xs, n, _, rfl, hl, hlen, hf⟩ := DataW.trod_struct ht h
  match xs, hlen with
  | [y0, y1, y2, y3, y4], _ => exact ⟨y0, y1, y2, y3, y4, n, by simpa using hf 0 f0 rfl, by simpa using hf 1 f1 rfl, by simpa using hf 2 f2 rfl, by simpa using hf 3 f3 rfl, by simpa using hf 4 f4 rfl⟩
theorem open_26 {H : Type} {enc : TypeId × Value → H} {W : World} {base : Nat} {spare : Nat → Bool} {held : Bool} {t : TypeId} {a : Option Addr} {len cap : Nat} {dd : DataW H} {ps : List MemPlace} {ts : List TypeId} {ds : List (DataW H)} {j : Nat}
    (hsz : (DataW.weightsEach Try.prog ts ds).all (· ≤ reachBytes) = true) (ht : ts[j]? = some t) (hd : ds[j]? = some dd) (hu : Try.prog.underlying t = some (.slice 26))
    (h : DataW.Trod enc Try.prog W base spare held t (.slice a len cap) dd ps) :
    ∃ l : List S26, len = l.length ∧ Kd.C k26 W a l.length l ∧ l.length ≤ cap ∧ l.length * 56 ≤ 140737488351232 := by
  obtain ⟨l, h1, h2, h3, h4, _⟩ := open_recs k26 z26 (fun _ => True) 56 hsz ht hd hu (by kernel_rfl) (by kernel_rfl) (fun n cs y hcs hy => by
    obtain ⟨y0, y1, y2, y3, y4, m, e0, e1, e2, e3, e4⟩ := trod_struct5 Try.underlying26 hy
    obtain ⟨s0, g0, _, _⟩ := DataW.trod_string Try.underlying9 e0
    obtain ⟨n1, g1, _, _⟩ := DataW.trod_int Try.underlying3 e1
    obtain ⟨n2, g2, _, _⟩ := DataW.trod_int Try.underlying3 e2
    obtain ⟨n3, g3, _, _⟩ := DataW.trod_int Try.underlying3 e3
    obtain ⟨s4, g4, _, _⟩ := DataW.trod_string Try.underlying9 e4
    have q0 : Try.prog.cellsOf 9 = 1 := by kernel_rfl
    have q1 : Try.prog.cellsOf 3 = 1 := by kernel_rfl
    obtain ⟨c0, c1, c2, c3, c4, rfl⟩ : ∃ c0 c1 c2 c3 c4, cs = [c0, c1, c2, c3, c4] := by
      exact list5 hcs
    rw [q0] at g0 g4
    rw [q1] at g1 g2 g3
    obtain rfl : c0 = .string s0 := List.head_eq_of_cons_eq (show [c0] = [Value.string s0] from g0)
    obtain rfl : c1 = .int .i64 n1 := List.head_eq_of_cons_eq (show [c1] = [Value.int .i64 n1] from g1)
    obtain rfl : c2 = .int .i64 n2 := List.head_eq_of_cons_eq (show [c2] = [Value.int .i64 n2] from g2)
    obtain rfl : c3 = .int .i64 n3 := List.head_eq_of_cons_eq (show [c3] = [Value.int .i64 n3] from g3)
    obtain rfl : c4 = .string s4 := List.head_eq_of_cons_eq (show [c4] = [Value.string s4] from g4)
    exact ⟨⟨s0, n1, n2, n3, s4⟩, k26_mk W ⟨s0, n1, n2, n3, s4⟩, trivial⟩) h
  exact ⟨l, h1, h2, h3, h4⟩
end Go.Proofs.Ytkbmababljcabaa.RowX
