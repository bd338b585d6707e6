/- Texts of this claim, one behind the other (merged by wip/prune.py of this repo, without what the proof does not use): LawFnWordsSay. -/
import Derived.Test.YtgmjaggkiifdjaaDoorZW16
import Derived.Below
import Derived.ChangeOld
import Derived.ChangeSlices
import Derived.LaidOnce
import Derived.Lay
import Derived.OpenShut
import Derived.PinnedBridge
import Derived.ProofKit
import Derived.SevenTiedAt
import Derived.ShutString
import Derived.SizedLaws
import Derived.Test.YtgmjaggkiifdjaaDoorCards
import Derived.Test.YtgmjaggkiifdjaaDoorRows
import Derived.Test.YtgmjaggkiifdjaaDoorTie
import Derived.WalkKit
set_option linter.unusedVariables false
set_option linter.unusedSimpArgs false
namespace Go.Proofs.YtgmjaggkiifdjaaDoor.fnWordsSay
open Go.ChangeShapes Go.WideShapes Go.ChangeAt Go.RowKit
open Go.ChangeMaps (open_string shut_string)
theorem own : ownKnob Tryd.prog.godebug = none := by kernel_rfl
set_option maxRecDepth 100000 in
theorem lifted (os : Os) (started : os.Started) (H : Type) (enc : TypeId × Value → H) :
    ReturnsInHanded {} Tryd.checked os 6 .any (fun w args => (Rows.fnWordsSaySpec.pre enc Tryd.prog Tryd.f6 [] false w args ∧ laidMetH Tryd.prog Rows.fnWordsSayRow.laid w) ∧ sizedMet enc Tryd.prog Tryd.f6 (OpenSpec.ofChange Rows.fnWordsSaySpec) false w args) (Rows.fnWordsSaySpec.post enc Tryd.prog Tryd.f6 false true false false) := by
  refine returnsInHanded_of_change_and (C := Tryd.checked) (X := fun w _ => laidMetH Tryd.prog Rows.fnWordsSayRow.laid w) (fun _ _ _ hh h => h.of_heap hh) own started (by kernel_rfl) Tryd.func6
    (ChangeSpec.witness_shaped (enc := enc) (C := Tryd.checked) (os := os) (X := fun w _ => laidMetH Tryd.prog Rows.fnWordsSayRow.laid w) false (World.laidAll Tryd.prog os Rows.fnWordsSayRow.laid) #[.string ByteArray.empty, .string ByteArray.empty, .int .i64 0] 8 (World.laidAll_os _ _ _) (World.shaped_of_ZipB (by kernel_rfl) (by kernel_rfl)) (by kernel_rfl) (by kernel_rfl) (by kernel_rfl) (by rw [MakeChecks.laidMetH_plain _ _ _ (by kernel_rfl)]; exact laidMet_laidAll _ (by kernel_rfl) (by kernel_rfl))) ?_
  intro W base args ds gs before hval0 hW hcnd hsz0 hL _
  have hsz : (DataW.weightsEach Tryd.prog (Tryd.f6.params.toList ++ Rows.fnWordsSaySpec.plain.varTypes Tryd.prog) (ds ++ gs)).all (· ≤ reachBytes) = true := hsz0
  have hval : ∀ (j : Nat) t v, Tryd.f6.params[j]? = some t → args[j]? = some v → Value.okWide Tryd.prog W .any base t v := hval0
  have hW' := hW
  obtain ⟨p, q, hA0, hV, rfl, hfz, hnd⟩ := hW
  have hA : DataW.TrodAll enc Tryd.prog W 0 (fun _ => true) true Tryd.f6.params.toList args.toList ds p := hA0
  rw [Tryd.params6] at hA hval hsz
  obtain ⟨v0, vs0, d0, ds0, p0, q0, hargs, rfl, rfl, h0, r0⟩ := trodAll_cons hA
  obtain ⟨v1, vs1, d1, ds1, p1, q1, rfl, rfl, rfl, h1, r1⟩ := trodAll_cons r0
  obtain ⟨v2, vs2, d2, ds2, p2, q2, rfl, rfl, rfl, h2, r2⟩ := trodAll_cons r1
  obtain ⟨rfl, rfl, rfl⟩ := trodAll_nil r2
  obtain rfl : args = #[v0, v1, v2] := by cases args; simp_all
  obtain ⟨rfl, rfl⟩ := trodVars_none hV
  obtain ⟨a0, rfl, rfl, rfl, y0⟩ := open_string Tryd.underlying9 (hval 0 9 v0 rfl rfl) h0
  have w0 : a0.size ≤ 140737488351232 := by
    have z := sized_string hsz (j := 0) (t := 9) rfl rfl
    rw [Array.length_toList] at z
    exact z
  obtain ⟨a1, rfl, rfl, rfl, y1⟩ := open_string Tryd.underlying9 (hval 1 9 v1 rfl rfl) h1
  have w1 : a1.size ≤ 140737488351232 := by
    have z := sized_string hsz (j := 1) (t := 9) rfl rfl
    rw [Array.length_toList] at z
    exact z
  obtain ⟨a2, rfl, rfl, rfl, y2⟩ := open_int Tryd.underlying3 (hval 2 3 v2 rfl rfl) h2
  clear hA0 hval0 hsz0 hsz
  refine (Pure.words_all a0 a1 a2 W (by rw [MakeChecks.laidMetH_plain _ _ _ (by kernel_rfl)] at hL; exact Given.tabsU_of (Pinned.caseRanges_eq ▸ Lib.laidMet.reads hL (by exact .tail _ (.head _))) (Pinned.utf8First_eq ▸ Lib.laidMet.reads hL (by exact .tail _ (.tail _ (.head _)))) (Lib.laidMet.reads hL (by exact .head _)))).mono fun e W' ⟨he, bel⟩ => ?_
  subst he
  exact ⟨_, rfl, _, _, _, [], _, [], hW', trodAll_mk1 (shut_bool Tryd.underlying4 _), (trodAll_cons_mk (shut_string Tryd.underlying9 y0) (trodAll_cons_mk (shut_string Tryd.underlying9 y1) (trodAll_cons_mk (shut_int Tryd.underlying3 y2) trodAll_mk0))), rfl, bel.frame _, fun h => by cases h⟩
theorem over : Rows.fnWordsSayRow.holds Tryd.pinned (OpenSpec.ofChange Rows.fnWordsSaySpec) :=
  OpenClaim.holds_of_wide 6 Tryd.f6 rfl rfl rfl rfl rfl rfl rfl ⟨rfl, rfl, rfl, rfl, rfl⟩ rfl rfl rfl rfl rfl (by kernel_rfl) Tryd.func6 (by kernel_rfl)
    (of_decide_eq_true (by kernel_rfl)) (by unfold Func.isWrapper; first | (rw [if_pos (by decide +kernel)]; kernel_rfl) | (rw [if_neg (by decide +kernel)]; exact ⟨rfl, rfl⟩))
    (fun os started H enc _ => lifted os started H enc)
theorem proved : Rows.FnWordsSaySaid := over
end Go.Proofs.YtgmjaggkiifdjaaDoor.fnWordsSay
namespace Go.Proofs.YtgmjaggkiifdjaaDoor
theorem fnWordsSayCard_holds : Rows.FnWordsSayCardSaid :=
  Claim7.holds_tied_plain_at .later [] [.data, .pinned, .pinned] true (true, "0f41279945b348a552a9bed98e151662918a1d8aeae1838ff59062c89c7712c0") false
    fnWordsSay.proved (fun _ h => by cases h) (by kernel_rfl) (fun _ h => by cases h) fnWordsSay_row_tie rfl ⟨rfl, rfl⟩ (by kernel_rfl) rfl
    (fun f fn hf hfn => by
      obtain rfl : f = 6 := Option.some.inj ((show Tryd.prog.funcNamed "pub-headstall/laws.FnWordsSay" = some 6 by kernel_rfl).symm.trans hf) |>.symm
      obtain rfl : fn = Tryd.f6 := (Option.some.inj (Tryd.func6.symm.trans hfn)).symm
      exact ⟨by kernel_rfl, fun j t ht => by
          rw [Tryd.params6] at ht
          rcases j with _ | _ | _ | j
          · obtain rfl : 9 = t := by simpa using ht
            exact (show Tryd.prog.wantsStandIn 9 = false by kernel_rfl)
          · obtain rfl : 9 = t := by simpa using ht
            exact (show Tryd.prog.wantsStandIn 9 = false by kernel_rfl)
          · obtain rfl : 3 = t := by simpa using ht
            exact (show Tryd.prog.wantsStandIn 3 = false by kernel_rfl)
          · simp at ht⟩)
    (by kernel_rfl)
end Go.Proofs.YtgmjaggkiifdjaaDoor
