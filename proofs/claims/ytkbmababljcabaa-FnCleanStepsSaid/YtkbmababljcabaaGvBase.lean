/- What the hand-proved contracts of this seat import, and small facts on bytes and runes. -/
import Derived.Test.YtkbmababljcabaaProg
import Derived.Test.YtkbmababljcabaaBase
import Derived.Below
import Derived.OwnWalk
import Derived.Tactics
import Derived.WalkKit
import Derived.KernelRfl
import Derived.RowKit3
import Derived.Deep.LoopGhost
import Derived.Deep.QuietTactic
import Derived.BigQuiet
import Derived.WideLaws
import Derived.Laws.RangeString
import Derived.Laws.RangeAny
import Derived.Laws.Slices
import Derived.Laws.BytesArg
import Derived.Lib.ConvBytes
import Derived.Lib.TrimU
import Derived.Outline
import Derived.WalkLawsBesides
import Derived.WalkSpells
import Derived.Lib.Hide
import Derived.Test.YtkbmababljcabaaWWords
import Derived.Test.YtkbmababljcabaaWLast
import Derived.Test.YtkbmababljcabaaWMore
set_option linter.unusedVariables false
namespace Go.Proofs.Ytkbmababljcabaa.Gv
open Go.RowKit Go.Proofs.YtkbmababljcabaaW.PrintWords Go.Proofs.YtkbmababljcabaaW.PrintLast Go.Proofs.YtkbmababljcabaaW.PrintMore Go.Proofs.Ytkbmababljcabaa.Base

theorem width_pos (s : ByteArray) (pos : Nat) (h : pos < s.size) : 1 ≤ (Utf8.decode s pos).2 := by
  by_cases ha : (s[pos]'h).toNat < 128
  · rw [decode_ascii s pos h ha]; exact Nat.le_refl _
  · exact (decode_high s pos h (by omega)).2
theorem get_bt (s : ByteArray) (i : Nat) (h : i < s.size) : ((s.get! i).toNat : Int) = bt s (i : Int) := by
  have e : s.get! i = s[i]'h := by simp [ByteArray.get!, getElem!_pos, h]; rfl
  rw [e]
  exact bt_at s (i : Int) h
/-- The bytes behind a rune's first one are none of ASCII's. -/
theorem conts (s : ByteArray) (pos j : Nat) (h1 : 1 ≤ j) (h2 : j < (Utf8.decode s pos).2) : pos + j < s.size ∧ 128 ≤ bt s ((pos + j : Nat) : Int) := by
  have key : ∀ k, (decide (pos + k < s.size) && (s.get! (pos + k)).toNat / 64 == 2) = true → pos + k < s.size ∧ 128 ≤ bt s ((pos + k : Nat) : Int) := by
    intro k hk
    simp only [Bool.and_eq_true, decide_eq_true_eq, beq_iff_eq] at hk
    refine ⟨hk.1, ?_⟩
    rw [← get_bt s (pos + k) hk.1]
    omega
  unfold Utf8.decode at h2
  simp only at h2
  split at h2
  · simp only at h2; omega
  · split at h2
    · rename_i hc
      simp only [Bool.and_eq_true] at hc
      split at h2
      · simp only at h2
        obtain rfl : j = 1 := by omega
        exact key 1 (by simpa using hc.2)
      · simp only at h2; omega
    · split at h2
      · rename_i hc
        simp only [Bool.and_eq_true] at hc
        split at h2
        · simp only at h2
          rcases (by omega : j = 1 ∨ j = 2) with rfl | rfl
          · exact key 1 (by simpa using hc.1.2)
          · exact key 2 (by simpa using hc.2)
        · simp only at h2; omega
      · split at h2
        · rename_i hc
          simp only [Bool.and_eq_true] at hc
          split at h2
          · simp only at h2
            rcases (by omega : j = 1 ∨ j = 2 ∨ j = 3) with rfl | rfl | rfl
            · exact key 1 (by simpa using hc.1.1.2)
            · exact key 2 (by simpa using hc.1.2)
            · exact key 3 (by simpa using hc.2)
          · simp only at h2; omega
        · simp only at h2; omega
/-- A rune is an ASCII sign just if its first byte is that sign; then it has one byte. -/
theorem rune_is (s : ByteArray) (pos : Nat) (h : pos < s.size) (c : Int) (hc : c < 128) : ((Utf8.decode s pos).1 : Int) = c ↔ bt s (pos : Int) = c := by
  have hb : bt s (pos : Int) = ((s[pos]'h).toNat : Int) := (bt_at s (pos : Int) h).symm
  by_cases ha : (s[pos]'h).toNat < 128
  · rw [decode_ascii s pos h ha, hb]
  · have := (decode_high s pos h (by omega)).1
    rw [hb]
    omega
end Go.Proofs.Ytkbmababljcabaa.Gv
