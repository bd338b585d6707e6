/- Region 8 of sortAcceptedTypes may be walked in the order of the text: checked in parts. Printed by wip/mklex.py. -/
import Derived.Test.YtkbmababljcabaaGvRow
import Derived.Test.YtkbmababljcabaaWTab
import Derived.Deep.Quiet
import Derived.KernelRfl
set_option linter.unusedVariables false
namespace Go.Proofs.Ytkbmababljcabaa.Lex
open Go.Proofs.YtkbmababljcabaaW.PrintLast

def lexPart (md : Region.Mode) (ops : Array Oper) : Nat → Nat → Array Bool → Bool
  | 0, _, _ => true
  | m + 1, k, listed => (Region.ready md ops listed).contains k && Region.free md ops listed k && lexPart md ops m (k + 1) (listed.setIfInBounds k true)
def mark : Nat → Nat → Array Bool → Array Bool
  | 0, _, listed => listed
  | m + 1, k, listed => mark m (k + 1) (listed.setIfInBounds k true)
theorem lex_part (md : Region.Mode) (ops : Array Oper) : ∀ (m r k : Nat) (listed : Array Bool), lexPart md ops m k listed = true → Region.lexFrom md ops r (k + m) (mark m k listed) = true → Region.lexFrom md ops (m + r) k listed = true
  | 0, r, k, listed, _, h => by rw [Nat.zero_add]; exact h
  | m + 1, r, k, listed, h1, h2 => by
    rw [show m + 1 + r = (m + r) + 1 by omega]
    simp only [lexPart, Bool.and_eq_true] at h1
    simp only [Region.lexFrom, Bool.and_eq_true]
    refine ⟨h1.1, lex_part md ops m r (k + 1) _ h1.2 ?_⟩
    rw [show k + 1 + m = k + (m + 1) by omega]
    exact h2

def at_ (k : Nat) : Array Bool := (List.replicate k true ++ List.replicate (132 - k) false).toArray
theorem part0 : lexPart .any (opsOf Try.f66 8) 11 0 (at_ 0) = true := by kernel_rfl
theorem mark0 : mark 11 0 (at_ 0) = at_ 11 := by kernel_rfl
theorem part1 : lexPart .any (opsOf Try.f66 8) 11 11 (at_ 11) = true := by kernel_rfl
theorem mark1 : mark 11 11 (at_ 11) = at_ 22 := by kernel_rfl
theorem part2 : lexPart .any (opsOf Try.f66 8) 11 22 (at_ 22) = true := by kernel_rfl
theorem mark2 : mark 11 22 (at_ 22) = at_ 33 := by kernel_rfl
theorem part3 : lexPart .any (opsOf Try.f66 8) 11 33 (at_ 33) = true := by kernel_rfl
theorem mark3 : mark 11 33 (at_ 33) = at_ 44 := by kernel_rfl
theorem part4 : lexPart .any (opsOf Try.f66 8) 11 44 (at_ 44) = true := by kernel_rfl
theorem mark4 : mark 11 44 (at_ 44) = at_ 55 := by kernel_rfl
theorem part5 : lexPart .any (opsOf Try.f66 8) 11 55 (at_ 55) = true := by kernel_rfl
theorem mark5 : mark 11 55 (at_ 55) = at_ 66 := by kernel_rfl
theorem part6 : lexPart .any (opsOf Try.f66 8) 11 66 (at_ 66) = true := by kernel_rfl
theorem mark6 : mark 11 66 (at_ 66) = at_ 77 := by kernel_rfl
theorem part7 : lexPart .any (opsOf Try.f66 8) 11 77 (at_ 77) = true := by kernel_rfl
theorem mark7 : mark 11 77 (at_ 77) = at_ 88 := by kernel_rfl
theorem part8 : lexPart .any (opsOf Try.f66 8) 11 88 (at_ 88) = true := by kernel_rfl
theorem mark8 : mark 11 88 (at_ 88) = at_ 99 := by kernel_rfl
theorem part9 : lexPart .any (opsOf Try.f66 8) 11 99 (at_ 99) = true := by kernel_rfl
theorem mark9 : mark 11 99 (at_ 99) = at_ 110 := by kernel_rfl
theorem part10 : lexPart .any (opsOf Try.f66 8) 11 110 (at_ 110) = true := by kernel_rfl
theorem mark10 : mark 11 110 (at_ 110) = at_ 121 := by kernel_rfl
theorem part11 : lexPart .any (opsOf Try.f66 8) 11 121 (at_ 121) = true := by kernel_rfl
theorem mark11 : mark 11 121 (at_ 121) = at_ 132 := by kernel_rfl
theorem last : Region.lexFrom .any (opsOf Try.f66 8) 0 132 (at_ 132) = true := by kernel_rfl
theorem sel : Region.noSelect (opsOf Try.f66 8) = true := by kernel_rfl
theorem size : (opsOf Try.f66 8).size = 132 := by kernel_rfl
theorem start : Array.replicate 132 false = at_ 0 := by kernel_rfl
theorem from11 : Region.lexFrom .any (opsOf Try.f66 8) 11 121 (at_ 121) = true := lex_part .any (opsOf Try.f66 8) 11 0 121 (at_ 121) part11 (mark11 ▸ last)
theorem from10 : Region.lexFrom .any (opsOf Try.f66 8) 22 110 (at_ 110) = true := lex_part .any (opsOf Try.f66 8) 11 11 110 (at_ 110) part10 (mark10 ▸ from11)
theorem from9 : Region.lexFrom .any (opsOf Try.f66 8) 33 99 (at_ 99) = true := lex_part .any (opsOf Try.f66 8) 11 22 99 (at_ 99) part9 (mark9 ▸ from10)
theorem from8 : Region.lexFrom .any (opsOf Try.f66 8) 44 88 (at_ 88) = true := lex_part .any (opsOf Try.f66 8) 11 33 88 (at_ 88) part8 (mark8 ▸ from9)
theorem from7 : Region.lexFrom .any (opsOf Try.f66 8) 55 77 (at_ 77) = true := lex_part .any (opsOf Try.f66 8) 11 44 77 (at_ 77) part7 (mark7 ▸ from8)
theorem from6 : Region.lexFrom .any (opsOf Try.f66 8) 66 66 (at_ 66) = true := lex_part .any (opsOf Try.f66 8) 11 55 66 (at_ 66) part6 (mark6 ▸ from7)
theorem from5 : Region.lexFrom .any (opsOf Try.f66 8) 77 55 (at_ 55) = true := lex_part .any (opsOf Try.f66 8) 11 66 55 (at_ 55) part5 (mark5 ▸ from6)
theorem from4 : Region.lexFrom .any (opsOf Try.f66 8) 88 44 (at_ 44) = true := lex_part .any (opsOf Try.f66 8) 11 77 44 (at_ 44) part4 (mark4 ▸ from5)
theorem from3 : Region.lexFrom .any (opsOf Try.f66 8) 99 33 (at_ 33) = true := lex_part .any (opsOf Try.f66 8) 11 88 33 (at_ 33) part3 (mark3 ▸ from4)
theorem from2 : Region.lexFrom .any (opsOf Try.f66 8) 110 22 (at_ 22) = true := lex_part .any (opsOf Try.f66 8) 11 99 22 (at_ 22) part2 (mark2 ▸ from3)
theorem from1 : Region.lexFrom .any (opsOf Try.f66 8) 121 11 (at_ 11) = true := lex_part .any (opsOf Try.f66 8) 11 110 11 (at_ 11) part1 (mark1 ▸ from2)
theorem from0 : Region.lexFrom .any (opsOf Try.f66 8) 132 0 (at_ 0) = true := lex_part .any (opsOf Try.f66 8) 11 121 0 (at_ 0) part0 (mark0 ▸ from1)
theorem lex8 : Region.lexB .any (opsOf Try.f66 8) = true := by
  unfold Region.lexB
  rw [sel, size, start, from0]
  rfl
end Go.Proofs.Ytkbmababljcabaa.Lex
