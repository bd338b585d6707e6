/- Texts of this claim, one behind the other (merged by wip/prune.py of this repo, without what the proof does not use): LawFnStatusLines. -/
import Derived.Test.YtgmjaggkiifdjaaDoorZU9
import Derived.Test.YtgmjaggkiifdjaaDoorZU10
import Derived.Below
import Derived.ChangeOld
import Derived.ChangeSlices
import Derived.LaidOnce
import Derived.Lay
import Derived.OpenShut
import Derived.ProofKit
import Derived.SevenTiedAt
import Derived.ShutString
import Derived.SizedLaws
import Derived.Test.YtgmjaggkiifdjaaDoorCards
import Derived.Test.YtgmjaggkiifdjaaDoorRows
import Derived.Test.YtgmjaggkiifdjaaDoorTie
import Derived.WalkKit
set_option linter.unusedVariables false
set_option linter.unusedSimpArgs false
namespace Go.Proofs.YtgmjaggkiifdjaaDoor.fnStatusLines
open Go.ChangeShapes Go.WideShapes Go.ChangeAt Go.RowKit
open Go.ChangeMaps (open_string shut_string)
theorem own : ownKnob Tryd.prog.godebug = none := by kernel_rfl
set_option maxRecDepth 100000 in
theorem lifted (os : Os) (started : os.Started) (H : Type) (enc : TypeId × Value → H) :
    ReturnsInHanded {} Tryd.checked os 3 .any (fun w args => (Rows.fnStatusLinesSpec.pre enc Tryd.prog Tryd.f3 [] false w args ∧ laidMetH Tryd.prog Rows.fnStatusLinesRow.laid w) ∧ sizedMet enc Tryd.prog Tryd.f3 (OpenSpec.ofChange Rows.fnStatusLinesSpec) false w args) (Rows.fnStatusLinesSpec.post enc Tryd.prog Tryd.f3 false true false false) := by
  refine returnsInHanded_of_change_and (C := Tryd.checked) (X := fun w _ => laidMetH Tryd.prog Rows.fnStatusLinesRow.laid w) (fun _ _ _ hh h => h.of_heap hh) own started (by kernel_rfl) Tryd.func3
    (ChangeSpec.witness_shaped (enc := enc) (C := Tryd.checked) (os := os) (X := fun w _ => laidMetH Tryd.prog Rows.fnStatusLinesRow.laid w) false (World.laidAll Tryd.prog os Rows.fnStatusLinesRow.laid) #[.int .i64 0] 8 (World.laidAll_os _ _ _) (World.shaped_of_ZipB (by kernel_rfl) (by kernel_rfl)) (by kernel_rfl) (by kernel_rfl) (by kernel_rfl) (by rw [MakeChecks.laidMetH_plain _ _ _ (by kernel_rfl)]; exact laidMet_laidAll _ (by kernel_rfl) (by kernel_rfl))) ?_
  intro W base args ds gs before hval0 hW hcnd hsz0 hL _
  have hsz : (DataW.weightsEach Tryd.prog (Tryd.f3.params.toList ++ Rows.fnStatusLinesSpec.plain.varTypes Tryd.prog) (ds ++ gs)).all (· ≤ reachBytes) = true := hsz0
  have hval : ∀ (j : Nat) t v, Tryd.f3.params[j]? = some t → args[j]? = some v → Value.okWide Tryd.prog W .any base t v := hval0
  have hW' := hW
  obtain ⟨p, q, hA0, hV, rfl, hfz, hnd⟩ := hW
  have hA : DataW.TrodAll enc Tryd.prog W 0 (fun _ => true) true Tryd.f3.params.toList args.toList ds p := hA0
  rw [Tryd.params3] at hA hval hsz
  obtain ⟨v0, vs0, d0, ds0, p0, q0, hargs, rfl, rfl, h0, r0⟩ := trodAll_cons hA
  obtain ⟨rfl, rfl, rfl⟩ := trodAll_nil r0
  obtain rfl : args = #[v0] := by cases args; simp_all
  obtain ⟨rfl, rfl⟩ := trodVars_none hV
  obtain ⟨a0, rfl, rfl, rfl, y0⟩ := open_int Tryd.underlying3 (hval 0 3 v0 rfl rfl) h0
  clear hA0 hval0 hsz0 hsz
  refine (Pure.lines_all a0 W y0 (by rw [MakeChecks.laidMetH_plain _ _ _ (by kernel_rfl)] at hL; exact Given.tabP_of ((show Rows.laid_internal_strconv_uint64pow10 = Lib.tabData .u64 Lib.pow10Tab by kernel_rfl) ▸ Lib.laidMet.reads hL (by exact .tail _ (.tail _ (.head _)))))).mono fun e W' ⟨he, bel⟩ => ?_
  subst he
  exact ⟨_, rfl, _, _, _, [], _, [], hW', trodAll_mk1 (shut_bool Tryd.underlying4 _), (trodAll_cons_mk (shut_int Tryd.underlying3 y0) trodAll_mk0), rfl, bel.frame _, fun h => by cases h⟩
theorem over : Rows.fnStatusLinesRow.holds Tryd.pinned (OpenSpec.ofChange Rows.fnStatusLinesSpec) :=
  OpenClaim.holds_of_wide 3 Tryd.f3 rfl rfl rfl rfl rfl rfl rfl ⟨rfl, rfl, rfl, rfl, rfl⟩ rfl rfl rfl rfl rfl (by kernel_rfl) Tryd.func3 (by kernel_rfl)
    (of_decide_eq_true (by kernel_rfl)) (by unfold Func.isWrapper; first | (rw [if_pos (by decide +kernel)]; kernel_rfl) | (rw [if_neg (by decide +kernel)]; exact ⟨rfl, rfl⟩))
    (fun os started H enc _ => lifted os started H enc)
theorem proved : Rows.FnStatusLinesSaid := over
end Go.Proofs.YtgmjaggkiifdjaaDoor.fnStatusLines
namespace Go.Proofs.YtgmjaggkiifdjaaDoor
theorem fnStatusLinesCard_holds : Rows.FnStatusLinesCardSaid :=
  Claim7.holds_tied_plain_at .later [] [.data, .data, .data] true (true, "0f41279945b348a552a9bed98e151662918a1d8aeae1838ff59062c89c7712c0") false
    fnStatusLines.proved (fun _ h => by cases h) (by kernel_rfl) (fun _ h => by cases h) fnStatusLines_row_tie rfl ⟨rfl, rfl⟩ (by kernel_rfl) rfl
    (fun f fn hf hfn => by
      obtain rfl : f = 3 := Option.some.inj ((show Tryd.prog.funcNamed "pub-headstall/laws.FnStatusLines" = some 3 by kernel_rfl).symm.trans hf) |>.symm
      obtain rfl : fn = Tryd.f3 := (Option.some.inj (Tryd.func3.symm.trans hfn)).symm
      exact ⟨by kernel_rfl, fun j t ht => by
          rw [Tryd.params3] at ht
          rcases j with _ | j
          · obtain rfl : 3 = t := by simpa using ht
            exact (show Tryd.prog.wantsStandIn 3 = false by kernel_rfl)
          · simp at ht⟩)
    (by kernel_rfl)
end Go.Proofs.YtgmjaggkiifdjaaDoor
