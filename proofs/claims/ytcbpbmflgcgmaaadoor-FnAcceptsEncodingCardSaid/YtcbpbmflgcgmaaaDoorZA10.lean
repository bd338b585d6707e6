/- Texts of this claim, one behind the other (merged by wip/prune.py of this repo, without what the proof does not use): LawFnAcceptsEncoding. -/
import Derived.Test.YtcbpbmflgcgmaaaDoorZA5
import Derived.Test.YtcbpbmflgcgmaaaDoorZA9
import Derived.Below
import Derived.ChangeOld
import Derived.ChangeSlices
import Derived.JoinedOf
import Derived.LaidLaws
import Derived.LaidMore
import Derived.OpenShut
import Derived.ProofKit
import Derived.SevenTiedAt
import Derived.ShutString
import Derived.SizedLaws
import Derived.Stop.LaidErr
import Derived.Test.YtcbpbmflgcgmaaaDoorCards
import Derived.Test.YtcbpbmflgcgmaaaDoorRows
import Derived.Test.YtcbpbmflgcgmaaaDoorTie
import Derived.WalkKit
set_option linter.unusedVariables false
set_option linter.unusedSimpArgs false
namespace Go.Proofs.YtcbpbmflgcgmaaaDoor.fnAcceptsEncoding
open Go.ChangeShapes Go.WideShapes Go.ChangeAt Go.RowKit
open Go.ChangeMaps (open_string shut_string)
theorem own : ownKnob Tryd.prog.godebug = none := by kernel_rfl
theorem laidOut : laidOutB Tryd.prog = true := by kernel_rfl
set_option maxRecDepth 100000 in
theorem lifted (os : Os) (started : os.Started) (H : Type) (enc : TypeId × Value → H) :
    ReturnsInHanded {} Tryd.checked os 3 .any (fun w args => (Rows.fnAcceptsEncodingSpec.pre enc Tryd.prog Tryd.f3 [] false w args ∧ laidMetH Tryd.prog Rows.fnAcceptsEncodingRow.laid w) ∧ sizedMet enc Tryd.prog Tryd.f3 (OpenSpec.ofChange Rows.fnAcceptsEncodingSpec) false w args) (Rows.fnAcceptsEncodingSpec.post enc Tryd.prog Tryd.f3 false true false false) := by
  refine returnsInHanded_of_change_and (C := Tryd.checked) (X := fun w _ => laidMetH Tryd.prog Rows.fnAcceptsEncodingRow.laid w) (fun _ _ _ hh h => h.of_heap hh) own started (by kernel_rfl) Tryd.func3
    (ChangeSpec.witness_shaped (enc := enc) (C := Tryd.checked) (os := os) (X := fun w _ => laidMetH Tryd.prog Rows.fnAcceptsEncodingRow.laid w) false (World.doorLaid Tryd.prog 400 os) #[.slice none 0 0, .string ByteArray.empty] 8 rfl (World.shaped_of_RefB (by kernel_rfl) (by kernel_rfl)) (by kernel_rfl) (by kernel_rfl) (by kernel_rfl) (laidMetH_of_parts3 (fuel := 8) (laidMet_of_run' 8 (by kernel_rfl) (by kernel_rfl)) (by kernel_rfl) (by kernel_rfl))) ?_
  intro W base args ds gs before hval0 hW hcnd hsz0 hL _
  have hsz : (DataW.weightsEach Tryd.prog (Tryd.f3.params.toList ++ Rows.fnAcceptsEncodingSpec.plain.varTypes Tryd.prog) (ds ++ gs)).all (· ≤ reachBytes) = true := hsz0
  have hval : ∀ (j : Nat) t v, Tryd.f3.params[j]? = some t → args[j]? = some v → Value.okWide Tryd.prog W .any base t v := hval0
  have hW' := hW
  obtain ⟨p, q, hA0, hV, rfl, hfz, hnd⟩ := hW
  have hA : DataW.TrodAll enc Tryd.prog W 0 (fun _ => true) true Tryd.f3.params.toList args.toList ds p := hA0
  rw [Tryd.params3] at hA hval hsz
  obtain ⟨v0, vs0, d0, ds0, p0, q0, hargs, rfl, rfl, h0, r0⟩ := trodAll_cons hA
  obtain ⟨v1, vs1, d1, ds1, p1, q1, rfl, rfl, rfl, h1, r1⟩ := trodAll_cons r0
  obtain ⟨rfl, rfl, rfl⟩ := trodAll_nil r1
  obtain rfl : args = #[v0, v1] := by cases args; simp_all
  obtain ⟨rfl, rfl⟩ := trodVars_none hV
  obtain ⟨a0, len0, cap0, rfl⟩ := okWide_slice Tryd.underlying22 (hval 0 22 v0 rfl rfl)
  have k0 := h0
  have lt0 : ∀ x ∈ p0, x.block < W.heap.size := by obtain ⟨m, hm⟩ := k0; exact DataW.trod_lt m _ _ _ hm
  obtain ⟨l0, rfl, w0, y0, m0⟩ := Go.Proofs.YtcbpbmflgcgmaaaDoor.RowX.open_strs_C hsz (j := 0) (t := 22) rfl rfl Tryd.underlying22 Tryd.underlying9 (by kernel_rfl) (by kernel_rfl) h0
  obtain ⟨a1, rfl, rfl, rfl, y1⟩ := open_string Tryd.underlying9 (hval 1 9 v1 rfl rfl) h1
  have w1 : a1.size ≤ 140737488351232 := by
    have z := sized_string hsz (j := 1) (t := 9) rfl rfl
    rw [Array.length_toList] at z
    exact z
  clear hA0 hval0 hsz0 hsz
  refine (QA.laws_FnAcceptsEncoding.walk Pure.FnAcceptsEncoding a0 cap0 l0 a1 W w0 y0 m0 w1).mono fun e W' ⟨he, bel⟩ => ?_
  subst he
  exact ⟨_, rfl, _, _, _, [], _, [], hW', trodAll_mk1 (shut_bool Tryd.underlying4 _), (trodAll_cons_mk (Below.trod laidOut (by kernel_rfl) (of_decide_eq_true (by kernel_rfl)) k0 bel lt0) (trodAll_cons_mk (shut_string Tryd.underlying9 y1) trodAll_mk0)), rfl, bel.frame _, fun h => by cases h⟩
theorem over : Rows.fnAcceptsEncodingRow.holds Tryd.pinned (OpenSpec.ofChange Rows.fnAcceptsEncodingSpec) :=
  OpenClaim.holds_of_wide 3 Tryd.f3 rfl rfl rfl rfl rfl rfl rfl ⟨rfl, rfl, rfl, rfl, rfl⟩ rfl rfl rfl rfl rfl (by kernel_rfl) Tryd.func3 (by kernel_rfl)
    (of_decide_eq_true (by kernel_rfl)) (by unfold Func.isWrapper; first | (rw [if_pos (by decide +kernel)]; kernel_rfl) | (rw [if_neg (by decide +kernel)]; exact ⟨rfl, rfl⟩))
    (fun os started H enc _ => lifted os started H enc)
theorem proved : Rows.FnAcceptsEncodingSaid := over
end Go.Proofs.YtcbpbmflgcgmaaaDoor.fnAcceptsEncoding
namespace Go.Proofs.YtcbpbmflgcgmaaaDoor
theorem fnAcceptsEncodingCard_holds : Rows.FnAcceptsEncodingCardSaid :=
  Claim7.holds_tied_plain_at .later [] [.sentinel, .sentinel, .sentinel] true (true, "601420a3b7741df875a45732d30581ef9e4a349f6c1322ef961cdc622d00e486") false
    fnAcceptsEncoding.proved (fun _ h => by cases h) (by kernel_rfl) (fun _ h => by cases h) fnAcceptsEncoding_row_tie rfl ⟨rfl, rfl⟩ (by kernel_rfl) rfl
    (fun f fn hf hfn => by
      obtain rfl : f = 3 := Option.some.inj ((show Tryd.prog.funcNamed "pub-headstall/laws.FnAcceptsEncoding" = some 3 by kernel_rfl).symm.trans hf) |>.symm
      obtain rfl : fn = Tryd.f3 := (Option.some.inj (Tryd.func3.symm.trans hfn)).symm
      exact ⟨by kernel_rfl, fun j t ht => by
          rw [Tryd.params3] at ht
          rcases j with _ | _ | j
          · obtain rfl : 22 = t := by simpa using ht
            exact (show Tryd.prog.wantsStandIn 22 = false by kernel_rfl)
          · obtain rfl : 9 = t := by simpa using ht
            exact (show Tryd.prog.wantsStandIn 9 = false by kernel_rfl)
          · simp at ht⟩)
    (by kernel_rfl)
end Go.Proofs.YtcbpbmflgcgmaaaDoor
