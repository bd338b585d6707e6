/- What paramsMatch tells, in plain Lean: the parameters of a specification by name (the last value of a name counts, behind it no more are read; 'q' ends them), each looked for among an offer's. -/
import Derived.Test.YtkbmababljcabaaGParams
import Derived.Test.YtkbmababljcabaaGEqFold
set_option linter.unusedVariables false
namespace Go.Proofs.Ytkbmababljcabaa.Given
open Go.RowKit Go.Proofs.YtkbmababljcabaaW.PrintWords Go.Proofs.YtkbmababljcabaaW.PrintLast Go.Proofs.YtkbmababljcabaaW.PrintMore Go.Proofs.Ytkbmababljcabaa.Base Go.Proofs.Ytkbmababljcabaa.Gv

abbrev SP := List (ByteArray × ByteArray)
def noP : ByteArray × ByteArray := (⟨#[]⟩, ⟨#[]⟩)
/-- The place of the first parameter of that name; their number if there is none. -/
def findF (p : ByteArray) : SP → Nat
  | [] => 0
  | q :: r => if eqFold p q.1 = true then 0 else 1 + findF p r
theorem findF_le (p : ByteArray) (sp : SP) : findF p sp ≤ sp.length := by
  induction sp with
  | nil => exact Nat.le_refl _
  | cons q r ih => rw [findF, List.length_cons]; split <;> omega
theorem findF_not (p : ByteArray) (sp : SP) : ∀ k (h : k < sp.length), k < findF p sp → eqFold p (sp[k]).1 = false := by
  induction sp with
  | nil => intro k h; simp at h
  | cons q r ih =>
    intro k h hk
    rw [findF] at hk
    split at hk
    · omega
    · rename_i hq
      cases k with
      | zero => simpa using hq
      | succ k => exact ih k (by simpa using h) (by omega)
theorem findF_at (p : ByteArray) (sp : SP) (h : findF p sp < sp.length) : eqFold p (sp[findF p sp]).1 = true := by
  induction sp with
  | nil => simp at h
  | cons q r ih =>
    by_cases hq : eqFold p q.1 = true
    · have e : findF p (q :: r) = 0 := by rw [findF, if_pos hq]
      simp only [e]
      exact hq
    · have e : findF p (q :: r) = findF p r + 1 := by rw [findF, if_neg hq, Nat.add_comm]
      simp only [e, List.getElem_cons_succ]
      exact ih (by rw [e, List.length_cons] at h; omega)
def specStep (sp : SP) (p v : ByteArray) : Bool × SP :=
  if p.toList = ([113] : List UInt8) ∨ p.toList = ([81] : List UInt8) then (false, sp)
  else if findF p sp < sp.length then (false, sp.set (findF p sp) ((sp.getD (findF p sp) noP).1, v))
  else (true, sp ++ [(p, v)])
def hitStep (q : ByteArray × ByteArray) (s : Bool × Bool) (p v : ByteArray) : Bool × (Bool × Bool) :=
  if eqFold q.1 p = true then (false, (true, eqFold q.2 v)) else (true, s)
/-- Whether an offer's parameters have this one. -/
def hitOf (a1 : ByteArray) (q : ByteArray × ByteArray) : Bool := (foldP (hitStep q) a1.size (false, true) (ns a1)).1 && (foldP (hitStep q) a1.size (false, true) (ns a1)).2
def specOf (a0 : ByteArray) : SP := foldP specStep a0.size [] (ns a0)
def matchOf (a0 a1 : ByteArray) : Bool := if a0.size = 0 then true else (specOf a0).all (hitOf a1)
def fiberhelpers_paramsMatch.f (a0 a1 : ByteArray) : Option Bool := if a0.size ≤ 1099511627776 ∧ a1.size ≤ 1099511627776 then some (matchOf a0 a1) else none
def flatS (sp : SP) : List Value := sp.flatMap fun p => [.string p.1, .string p.2]
theorem flatS_length (sp : SP) : (flatS sp).length = sp.length * 2 := by
  induction sp with
  | nil => rfl
  | cons q r ih => rw [flatS, List.flatMap_cons, List.length_append, List.length_cons, List.length_cons, List.length_nil]; unfold flatS at ih; rw [ih, List.length_cons]; omega
theorem flatS_append (a b : SP) : flatS (a ++ b) = flatS a ++ flatS b := by unfold flatS; rw [List.flatMap_append]
theorem flatS_cons (q : ByteArray × ByteArray) (r : SP) : flatS (q :: r) = .string q.1 :: .string q.2 :: flatS r := by
  unfold flatS; rw [List.flatMap_cons]; rfl
theorem flatS_key (sp : SP) : ∀ (i : Nat) (h : i < sp.length), (flatS sp)[i * 2]? = some (.string (sp[i]).1) := by
  induction sp with
  | nil => intro i h; simp at h
  | cons q r ih =>
    intro i h
    rw [flatS_cons]
    cases i with
    | zero => rfl
    | succ i => rw [show (i + 1) * 2 = i * 2 + 1 + 1 by omega, List.getElem?_cons_succ, List.getElem?_cons_succ]; exact ih i (by simpa using h)
theorem flatS_val (sp : SP) : ∀ (i : Nat) (h : i < sp.length), (flatS sp)[i * 2 + 1]? = some (.string (sp[i]).2) := by
  induction sp with
  | nil => intro i h; simp at h
  | cons q r ih =>
    intro i h
    rw [flatS_cons]
    cases i with
    | zero => rfl
    | succ i => rw [show (i + 1) * 2 + 1 = i * 2 + 1 + 1 + 1 by omega, List.getElem?_cons_succ, List.getElem?_cons_succ]; exact ih i (by simpa using h)
theorem flatS_set (sp : SP) (v : ByteArray) : ∀ (i : Nat) (h : i < sp.length), (flatS sp).set (i * 2 + 1) (.string v) = flatS (sp.set i ((sp[i]).1, v)) := by
  induction sp with
  | nil => intro i h; simp at h
  | cons q r ih =>
    intro i h
    cases i with
    | zero => rfl
    | succ i =>
      rw [flatS_cons, show (i + 1) * 2 + 1 = i * 2 + 1 + 1 + 1 by omega, List.set_cons_succ, List.set_cons_succ, ih i (by simpa using h)]
      rfl
/-- Block o holds a slice of pairs of texts, of the call's own from block h on: these. -/
def SpRow (w : World) (h o : Nat) (sp : SP) : Prop :=
  h ≤ o ∧ ∃ g cap, w.heap[o]? = some (.cells #[.slice (some ⟨g, 0, none⟩) sp.length cap] 111 (0, 0)) ∧ g ≠ o ∧ w.ownsRow h 112 2 (.slice (some ⟨g, 0, none⟩) sp.length cap) sp.length (flatS sp)
theorem SpRow.drewN {w : World} {h o : Nat} {sp : SP} (hr : SpRow w h o sp) (k : Nat) : SpRow (w.drewN k) h o sp := hr
end Go.Proofs.Ytkbmababljcabaa.Given
