/- sortAcceptedTypes: accepted types in a slice behind a pointer are sorted in place. -/
import Derived.Test.YtkbmababljcabaaGvRow
import Derived.Test.YtkbmababljcabaaSortP
import Derived.Laws.OwnMore
import Derived.WalkMore
import Derived.Deep.MidRow
import Derived.BigRegion
import Derived.Deep.QuietTactic
import Derived.BigQuiet
import Derived.IntWalk
set_option linter.unusedVariables false
set_option linter.unusedSimpArgs false
namespace Go.Proofs.Ytkbmababljcabaa.Given
open Go.RowKit Go.Proofs.YtkbmababljcabaaW.PrintWords Go.Proofs.YtkbmababljcabaaW.PrintLast Go.Proofs.YtkbmababljcabaaW.PrintMore Go.Proofs.Ytkbmababljcabaa.Base Go.Proofs.Ytkbmababljcabaa.Gv Go.Proofs.Ytkbmababljcabaa.QA Go.Proofs.Ytkbmababljcabaa.Srt Go.Proofs.Ytkbmababljcabaa.Fl

theorem own_setCells {w : World} {base g n cap size : Nat} {e : TypeId} : ∀ (vs : List Value) (o : Nat) (w : World) (xs : List Value), w.ownsRow base e size (.slice (some ⟨g, 0, none⟩) n cap) n xs →
    (w.setCells g o vs).ownsRow base e size (.slice (some ⟨g, 0, none⟩) n cap) n (putA xs o vs)
  | [], _, _, _, h => h
  | v :: vs, o, w, xs, h => own_setCells (w := w) vs (o + 1) _ _ (h.stored o v).1
theorem below_setCells {B g : Nat} {w : World} (hg : B ≤ g) : ∀ (vs : List Value) (o : Nat) (w' : World), Below B w w' → Below B w (w'.setCells g o vs)
  | [], _, _, h => h
  | v :: vs, o, w', h => below_setCells hg vs (o + 1) _ (h.setCell (p := ⟨g, o, none⟩) hg v)
/-- The row of accepted types in block g. -/
def ARow (w : World) (B g n cap : Nat) (l : List S75) : Prop := w.ownsRow B 95 5 (.slice (some ⟨g, 0, none⟩) n cap) n (flatA l)
theorem ARow.range {w : World} {B g n cap : Nat} {l : List S75} (h : ARow w B g n cap l) (hl : l.length = n) (i : Nat) (hi : i < n) : w.rangeAt g (i * 5) (accC (l.getD i z75)) := by
  intro j v hv
  have hj : j < 5 := by have := (List.getElem?_eq_some_iff.1 hv).1; rwa [accC_length] at this
  rw [World.ownsRow.cellAt (w := w) h (i * 5 + j) (by omega), flatA_at l i j (by omega) hj, hv]
theorem ARow.cells {w : World} {B g n cap : Nat} {l : List S75} (h : ARow w B g n cap l) (hl : l.length = n) (i : Nat) (hi : i < n) :
    w.cell? ⟨g, i * 5, none⟩ = some (.string (l.getD i z75).f0) ∧ w.cell? ⟨g, i * 5 + 1, none⟩ = some (.float .f64 (fl (l.getD i z75).f1)) ∧ w.cell? ⟨g, i * 5 + 2, none⟩ = some (.int .i64 (l.getD i z75).f2) ∧ w.cell? ⟨g, i * 5 + 3, none⟩ = some (.int .i64 (l.getD i z75).f3) ∧ w.cell? ⟨g, i * 5 + 4, none⟩ = some (.string (l.getD i z75).f4) :=
  ⟨h.range hl i hi 0 _ rfl, h.range hl i hi 1 _ rfl, h.range hl i hi 2 _ rfl, h.range hl i hi 3 _ rfl, h.range hl i hi 4 _ rfl⟩
theorem ARow.there {w : World} {B g n cap : Nat} {l : List S75} (h : ARow w B g n cap l) (hl : l.length = n) (i : Nat) (hi : i < n) : w.there g (i * 5) 5 := by
  intro j hj
  refine ⟨?_, World.ownsRow.frozenAt (w := w) h _⟩
  rw [World.ownsRow.cellAt (w := w) h (i * 5 + j) (by omega), flatA_at l i j (by omega) hj]
  match j, hj with
  | 0, _ => rfl
  | 1, _ => rfl
  | 2, _ => rfl
  | 3, _ => rfl
  | 4, _ => rfl
theorem ARow.put {w : World} {B g n cap : Nat} {l : List S75} (h : ARow w B g n cap l) (hl : l.length = n) (i : Nat) (hi : i < n) (x : S75) : ARow (w.setCells g (i * 5) (accC x)) B g n cap (l.set i x) := by
  have := own_setCells (w := w) (accC x) (i * 5) w _ h
  rw [flatA_put l x i (by omega)] at this
  exact this
theorem less_cases (x y : S75) : (lessA x y = true ∧ (x.f1 < y.f1 ∨ (x.f1 = y.f1 ∧ x.f2 < y.f2) ∨ (x.f1 = y.f1 ∧ x.f2 = y.f2 ∧ x.f4.size = y.f4.size ∧ x.f3 > y.f3))) ∨
    (lessA x y = false ∧ (y.f1 < x.f1 ∨ (x.f1 = y.f1 ∧ y.f2 < x.f2) ∨ (x.f1 = y.f1 ∧ x.f2 = y.f2 ∧ x.f4.size ≠ y.f4.size) ∨ (x.f1 = y.f1 ∧ x.f2 = y.f2 ∧ x.f4.size = y.f4.size ∧ ¬ x.f3 > y.f3))) := by
  unfold lessA
  by_cases h1 : x.f1 < y.f1
  · left; exact ⟨by simp [h1], Or.inl h1⟩
  · by_cases h2 : x.f1 = y.f1
    · by_cases h3 : x.f2 < y.f2
      · left; exact ⟨by simp [h2, h3], Or.inr (Or.inl ⟨h2, h3⟩)⟩
      · by_cases h4 : x.f2 = y.f2
        · by_cases h5 : x.f4.size = y.f4.size
          · by_cases h6 : x.f3 > y.f3
            · left; exact ⟨by simp [h2, h4, h5, h6], Or.inr (Or.inr ⟨h2, h4, h5, h6⟩)⟩
            · right; exact ⟨by simp [h2, h4, h5, h6], Or.inr (Or.inr (Or.inr ⟨h2, h4, h5, h6⟩))⟩
          · right; exact ⟨by simp [h2, h4, h5], Or.inr (Or.inr (Or.inl ⟨h2, h4, h5⟩))⟩
        · right; exact ⟨by simp [h1, h2, h3, h4], Or.inr (Or.inl ⟨h2, by omega⟩)⟩
    · right; exact ⟨by simp [h1, h2], Or.inl (by omega)⟩
def inQ (l : List S75) : Prop := ∀ x ∈ l, 0 ≤ x.f1 ∧ x.f1 ≤ 1000
theorem inQ.at {l : List S75} (h : inQ l) (i : Nat) (hi : i < l.length) : 0 ≤ (l.getD i z75).f1 ∧ (l.getD i z75).f1 ≤ 1000 := by
  rw [List.getD_eq_getElem?_getD, List.getElem?_eq_getElem hi]
  exact h _ (List.getElem_mem hi)
theorem inQ.move {l : List S75} (h : inQ l) (i j : Nat) (hi : i < l.length) : inQ (moveA l i j) := by
  intro x hx
  unfold moveA at hx
  rcases List.mem_append.1 hx with hx | hx
  · exact h x (List.mem_of_mem_take hx)
  · rcases List.mem_cons.1 hx with rfl | hx
    · exact h.at i hi
    · rcases List.mem_append.1 hx with hx | hx
      · exact h x (List.mem_of_mem_drop (List.mem_of_mem_take hx))
      · exact h x (List.mem_of_mem_drop hx)
theorem acc_desc : ∃ d, Try.prog.underlying 95 = some d ∧ d.isRow = true := by
  refine ⟨_, Try.underlying95, ?_⟩
  rfl
theorem acc_size : (Try.prog.info? 95).map (·.size) = some 5 := by kernel_rfl
/-- The cells of an element as one value. -/
def accV (x : S75) : Value := .agg (accC x).toArray
theorem ARow.load {w : World} {B g n cap : Nat} {l : List S75} (h : ARow w B g n cap l) (hl : l.length = n) (i : Nat) (hi : i < n) :
    (Instr.loadAt 95 (.pointer (some ⟨g, i * 5, none⟩))).run Try.prog w = .ok (accV (l.getD i z75)) w := by
  obtain ⟨d, h1, h2⟩ := acc_desc
  exact run_loadAt_mid w g (i * 5) 95 (accC (l.getD i z75)) d (h.range hl i hi) h1 h2 acc_size
theorem ARow.store {w : World} {B g n cap : Nat} {l : List S75} (h : ARow w B g n cap l) (hl : l.length = n) (i : Nat) (hi : i < n) (x : S75) :
    (Instr.storeAt 95 (.pointer (some ⟨g, i * 5, none⟩)) (accV x)).run Try.prog w = .ok () (w.setCells g (i * 5) (accC x)) :=
  run_storeAt_mid w g (i * 5) 95 (accC x).toArray (h.there hl i hi) acc_size (by simp [accC, Value.oneCell'])
end Go.Proofs.Ytkbmababljcabaa.Given
