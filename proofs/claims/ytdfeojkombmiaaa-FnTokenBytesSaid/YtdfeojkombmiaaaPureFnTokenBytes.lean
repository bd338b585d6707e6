/- The law FnTokenBytes answers true at every byte: letters, digits and fifteen signs may stand in a token, no other byte. No condition beyond the row's own. -/
import Derived.Test.YtdfeojkombmiaaaQA33
import Derived.Test.YtdfeojkombmiaaaLWord
import Derived.Test.YtdfeojkombmiaaaLHolds
namespace Go.Proofs.Ytdfeojkombmiaaa.Pure
open Go.RowKit Go.Proofs.Ytdfeojkombmiaaa.QA Go.Proofs.YtdfeojkombmiaaaW.PrintWords Go.Proofs.YtdfeojkombmiaaaW.PrintLast Go.Proofs.Ytdfeojkombmiaaa.Base

def signs : ByteArray := ⟨#[33, 35, 36, 37, 38, 39, 42, 43, 45, 46, 94, 95, 96, 124, 126]⟩
def tok (x : Int) : Bool := wB x || (ns signs).any fun y => decide (y = x)
theorem field_fin : ∀ n : Fin 256, impl_FieldByte.f ((n.val : Nat) : Int) = some (tok ((n.val : Nat) : Int)) := by decide +kernel
theorem field_is (x : Int) (h0 : 0 ≤ x) (h1 : x ≤ 255) : impl_FieldByte.f x = some (tok x) := by
  obtain ⟨n, rfl⟩ := Int.eq_ofNat_of_zero_le h0
  exact field_fin ⟨n, by omega⟩
theorem FnTokenBytes : laws_FnTokenBytes.Pure := by
  intro c hc
  have hb := wf_u8 hc
  refine Ev.rounds ?_
  simp only [laws_FnTokenBytes.f]
  refine Ev.call (field_is 97 (by decide) (by decide)) (Ev.if_true (by decide +kernel) ?_)
  refine Ev.call (field_is c hb.1 hb.2) ?_
  refine Ev.bind (word_ends _ (by rw [strOfNums_size]; simp)) ?_
  have hw : isWord (strOfNums [c]) = wB c := by
    unfold isWord
    rw [ns_strOfNums (by simp; exact hb)]
    simp
  rw [hw]
  refine Ev.ite (fun h => Ev.val ?_) (fun h => Ev.bind (holds_ends _ c (by decide)) (Ev.val ?_))
  · simp [tok, h]
  · simp only [Bool.not_eq_true] at h
    rw [tok, h, Bool.false_or, beq_iff_eq]
    rfl
end Go.Proofs.Ytdfeojkombmiaaa.Pure
