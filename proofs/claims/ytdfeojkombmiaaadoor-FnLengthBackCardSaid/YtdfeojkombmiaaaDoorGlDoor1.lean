/- What the listed package variables of this seat hold (errors made by errors.New: none is nil), and that it stays. -/
import Derived.Test.YtdfeojkombmiaaaDoorGvBase
import Derived.Test.YtdfeojkombmiaaaDoorRows
import Derived.Stop.LaidErr
import Derived.ProofKit
import Derived.LaidMore
import Derived.LaidLaws
import Derived.JoinedOf
set_option linter.unusedVariables false
namespace Go.Proofs.YtdfeojkombmiaaaDoor.Given
open Go.RowKit
/-- Package variable k holds an error that is not nil. -/
def ErrAt (k : Nat) (w : World) : Prop := ∃ u v, w.cell? ⟨k, 0, none⟩ = some (.iface u v)
def GlS (ks : List Nat) (w : World) : Prop := ∀ k ∈ ks, ErrAt k w
theorem GlS.at {ks js : List Nat} {w W : World} (h : GlS ks w) (hb : Below w.heap.size w W) (hs : ∀ j ∈ js, j ∈ ks) : GlS js W := by
  intro j hj
  obtain ⟨u, a, hc⟩ := h j (hs j hj)
  refine ⟨u, a, ?_⟩
  rw [World.cell?_of_block (hb.block j (World.block_lt_of_cell? _ _ hc))]
  exact hc
theorem laid_mem {P : Program} {W : World} {nm : String} {d : DataW Unit} : ∀ {l : List (String × DataW Unit)} {ps : List MemPlace}, DataW.LaidVars P W l ps → (nm, d) ∈ l →
    ∃ g t cs fuel p, P.globalNamed nm = some g ∧ (P.globals[g]?).map (·.type) = some t ∧ W.var? P nm = some cs ∧ DataW.trod (fun _ => ()) P W 0 (fun _ => true) false fuel t cs.toList = some (d, p)
  | [], _, _, hm => by cases hm
  | (n, d') :: r, ps, h, hm => by
    obtain ⟨g, t, cs, fuel, p, q, h1, h2, h3, h4, h5, _⟩ := h
    rcases List.mem_cons.1 hm with e | hm
    · obtain ⟨rfl, rfl⟩ := Prod.mk.inj e
      exact ⟨g, t, cs, fuel, p, h1, h2, h3, h4⟩
    · exact laid_mem h5 hm
theorem errAt_of {P : Program} {nm : String} {d : DataW Unit} {l : List (String × DataW Unit)} {W : World} {g ti : Nat} {ms : Array (String × TypeId)} {n : String} (h : laidMet P l W) (hm : (nm, DataW.iface n d) ∈ l)
    (hg : P.globalNamed nm = some g) (ht : (P.globals[g]?).map (·.type) = some ti) (hi : P.underlying ti = some (.interface ms)) : ErrAt g W := by
  obtain ⟨ps, hl, _⟩ := h
  obtain ⟨g', t', cs, fuel, p, h1, h2, h3, h4⟩ := laid_mem hl hm
  obtain rfl := Option.some.inj (hg.symm.trans h1)
  obtain rfl := Option.some.inj (ht.symm.trans h2)
  obtain ⟨f1, u, v, hcs, _⟩ := iface_of_trod hi h4
  refine ⟨u, v, ?_⟩
  have := World.var?_cell hg h3 0
  rw [Array.eq_one_of_toList hcs] at this
  simpa using this
theorem gl_FnLines {W : World} (h : laidMetH Tryd.prog Rows.fnLinesRow.laid W) : GlS [0] W := by
  rw [MakeChecks.laidMetH_plain _ _ _ (by kernel_rfl)] at h
  intro k hk
  obtain rfl := List.mem_singleton.1 hk
  exact errAt_of h (List.mem_cons_self ..) (by kernel_rfl) (by kernel_rfl) Tryd.underlying35
theorem gl_FnLengthBack {W : World} (h : laidMetH Tryd.prog Rows.fnLengthBackRow.laid W) : GlS [1, 2, 3] W := by
  rw [MakeChecks.laidMetH_plain _ _ _ (by kernel_rfl)] at h
  intro k hk
  rcases List.mem_cons.1 hk with rfl | hk
  · exact errAt_of h (List.mem_cons_self ..) (by kernel_rfl) (by kernel_rfl) Tryd.underlying35
  rcases List.mem_cons.1 hk with rfl | hk
  · exact errAt_of h (List.mem_cons_of_mem _ (List.mem_cons_self ..)) (by kernel_rfl) (by kernel_rfl) Tryd.underlying35
  obtain rfl := List.mem_singleton.1 hk
  exact errAt_of h (List.mem_cons_of_mem _ (List.mem_cons_of_mem _ (List.mem_cons_self ..))) (by kernel_rfl) (by kernel_rfl) Tryd.underlying35
theorem door_met_FnLines (os : Os) (args : Array Value) : laidMetH Tryd.prog Rows.fnLinesRow.laid ((World.doorLaid Tryd.prog 400 os).forCall (fun _ _ => 0) ⟨#[], args, []⟩).memory :=
  laidMetH_of_parts3 (fuel := 8) (laidMet_of_run' 8 (by kernel_rfl) (by kernel_rfl)) (by kernel_rfl) (by kernel_rfl)
theorem door_met_FnLengthBack (os : Os) (args : Array Value) : laidMetH Tryd.prog Rows.fnLengthBackRow.laid ((World.doorLaid Tryd.prog 400 os).forCall (fun _ _ => 0) ⟨#[], args, []⟩).memory :=
  laidMetH_of_parts3 (fuel := 8) (laidMet_of_run' 8 (by kernel_rfl) (by kernel_rfl)) (by kernel_rfl) (by kernel_rfl)
end Go.Proofs.YtdfeojkombmiaaaDoor.Given
