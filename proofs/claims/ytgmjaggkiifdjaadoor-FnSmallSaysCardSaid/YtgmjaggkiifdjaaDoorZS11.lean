/- Texts of this claim, one behind the other (merged by wip/prune.py of this repo, without what the proof does not use): GlDoor0, GlDoor6. -/
import Derived.Test.YtgmjaggkiifdjaaDoorZS7
import Derived.JoinedOf
import Derived.LaidLaws
import Derived.LaidMore
import Derived.ProofKit
import Derived.Stop.LaidErr
import Derived.Test.YtgmjaggkiifdjaaDoorRows
set_option linter.unusedVariables false
set_option linter.unusedSimpArgs false
namespace Go.Proofs.YtgmjaggkiifdjaaDoor.Given
open Go.RowKit
def ErrAt (k : Nat) (w : World) : Prop := ∃ u v, w.cell? ⟨k, 0, none⟩ = some (.iface u v)
def GlS (ks : List Nat) (w : World) : Prop := ∀ k ∈ ks, ErrAt k w
theorem GlS.at {ks js : List Nat} {w W : World} (h : GlS ks w) (hb : Below w.heap.size w W) (hs : ∀ j ∈ js, j ∈ ks) : GlS js W := by
  intro j hj
  obtain ⟨u, a, hc⟩ := h j (hs j hj)
  refine ⟨u, a, ?_⟩
  rw [World.cell?_of_block (hb.block j (World.block_lt_of_cell? _ _ hc))]
  exact hc
theorem laid_mem {P : Program} {W : World} {nm : String} {d : DataW Unit} : ∀ {l : List (String × DataW Unit)} {ps : List MemPlace}, DataW.LaidVars P W l ps → (nm, d) ∈ l →
    ∃ g t cs fuel p, P.globalNamed nm = some g ∧ (P.globals[g]?).map (·.type) = some t ∧ W.var? P nm = some cs ∧ DataW.trod (fun _ => ()) P W 0 (fun _ => true) false fuel t cs.toList = some (d, p)
  | [], _, _, hm => by cases hm
  | (n, d') :: r, ps, h, hm => by
    obtain ⟨g, t, cs, fuel, p, q, h1, h2, h3, h4, h5, _⟩ := h
    rcases List.mem_cons.1 hm with e | hm
    · obtain ⟨rfl, rfl⟩ := Prod.mk.inj e
      exact ⟨g, t, cs, fuel, p, h1, h2, h3, h4⟩
    · exact laid_mem h5 hm
theorem errAt_of {P : Program} {nm : String} {d : DataW Unit} {l : List (String × DataW Unit)} {W : World} {g ti : Nat} {ms : Array (String × TypeId)} {n : String} (h : laidMet P l W) (hm : (nm, DataW.iface n d) ∈ l)
    (hg : P.globalNamed nm = some g) (ht : (P.globals[g]?).map (·.type) = some ti) (hi : P.underlying ti = some (.interface ms)) : ErrAt g W := by
  obtain ⟨ps, hl, _⟩ := h
  obtain ⟨g', t', cs, fuel, p, h1, h2, h3, h4⟩ := laid_mem hl hm
  obtain rfl := Option.some.inj (hg.symm.trans h1)
  obtain rfl := Option.some.inj (ht.symm.trans h2)
  obtain ⟨f1, u, v, hcs, _⟩ := iface_of_trod hi h4
  refine ⟨u, v, ?_⟩
  have := World.var?_cell hg h3 0
  rw [Array.eq_one_of_toList hcs] at this
  simpa using this
theorem gl_FnSmallSays {W : World} (h : laidMetH Tryd.prog Rows.fnSmallSaysRow.laid W) : GlS [0] W := by
  rw [MakeChecks.laidMetH_plain _ _ _ (by kernel_rfl)] at h
  intro k hk
  obtain rfl := List.mem_singleton.1 hk
  exact errAt_of h (List.mem_cons_self ..) (by kernel_rfl) (by kernel_rfl) Tryd.underlying52
theorem door_met_FnSmallSays (os : Os) (args : Array Value) : laidMetH Tryd.prog Rows.fnSmallSaysRow.laid ((World.doorLaid Tryd.prog 400 os).forCall (fun _ _ => 0) ⟨#[], args, []⟩).memory :=
  laidMetH_of_parts3 (fuel := 8) (laidMet_of_run' 8 (by kernel_rfl) (by kernel_rfl)) (by kernel_rfl) (by kernel_rfl)
end Go.Proofs.YtgmjaggkiifdjaaDoor.Given
