/- Texts of this claim, one behind the other (merged by wip/prune.py of this repo, without what the proof does not use): MR. -/
import Derived.Test.YtoimkmoalmmooaaZY2
import Derived.Lib.SlBytesConst
import Derived.Lib.SmallJoins
set_option linter.unusedVariables false
set_option linter.unusedSimpArgs false
namespace Go.Proofs.Ytoimkmoalmmooaa.MR
open Go.RowKit Go.Proofs.YtoimkmoalmmooaaW.PrintWords Go.Proofs.YtoimkmoalmmooaaW.PrintMore
def R (d : Kd Int) (e : Nat) (w : World) (base : Nat) (ok : Nat → Prop) (v : Value) (xs : List Int) : Prop :=
  ∃ g c, v = .slice (some ⟨g, 0, none⟩) xs.length c ∧ base ≤ g ∧ g < w.heap.size ∧ ok g ∧ xs.length ≤ c ∧ d.C w (some ⟨g, 0, none⟩) xs.length xs
section
variable {d : Kd Int} {e : Nat} {w w1 : World} {base base' : Nat} {ok : Nat → Prop} {v u : Value} {xs : List Int}
theorem R_lower (h : R d e w base ok v xs) (hb : base' ≤ base) : R d e w base' ok v xs := by
  obtain ⟨g, c, h1, h2, h3, h4, h5, h6⟩ := h
  exact ⟨g, c, h1, Nat.le_trans hb h2, h3, h4, h5, h6⟩
theorem R_below (h : R d e w base ok v xs) (hb : Below w.heap.size w w1) : R d e w1 base ok v xs := by
  obtain ⟨g, c, h1, h2, h3, h4, h5, h6⟩ := h
  exact ⟨g, c, h1, h2, Nat.lt_of_lt_of_le h3 hb.size, h4, h5, Kd.C_below h6 hb⟩
theorem R_drewN (h : R d e w base ok v xs) (m : Nat) : R d e (w.drewN m) base ok v xs := R_below h (pw_below_drewN (Below.refl _ _) m)
theorem R_slice (h : R d e w base ok v xs) : ∃ A c, v = .slice A xs.length c := by
  obtain ⟨g, c, h1, _⟩ := h
  exact ⟨_, c, h1⟩
theorem R_reads' {A : Option Addr} {n c : Nat} (h : R d e w base ok (.slice A n c) xs) : n = xs.length ∧ n ≤ c ∧ d.C w A xs.length xs := by
  obtain ⟨g, c', h1, _, _, _, h5, h6⟩ := h
  injection h1 with e1 e2 e3
  subst e1 e2 e3
  exact ⟨rfl, h5, h6⟩
theorem R_lt (h : R d e w base ok v xs) : ∀ k, v.ownBlock = some k → k < w.heap.size := by
  obtain ⟨g, c, rfl, _, h3, _⟩ := h
  intro k hk
  simp only [Value.ownBlock, Option.some.injEq] at hk
  omega
theorem R_base (h : R d e w base ok v xs) : ∀ k, v.ownBlock = some k → base ≤ k := by
  obtain ⟨g, c, rfl, h2, _⟩ := h
  intro k hk
  simp only [Value.ownBlock, Option.some.injEq] at hk
  omega
theorem R_elder' {W : World} (hu : R d e W base ok u xs) (hbase : ∀ k, v.ownBlock = some k → W.heap.size ≤ k) (hb : Below W.heap.size W w1) : R d e w1 base (fun k => ok k ∧ some k ≠ v.ownBlock) u xs := by
  obtain ⟨g, c, h1, h2, h3, h4, h5, h6⟩ := R_below hu hb
  refine ⟨g, c, h1, h2, h3, ⟨h4, fun e => ?_⟩, h5, h6⟩
  obtain ⟨g', c', h1', _, h3', _⟩ := hu
  have := hbase g e.symm
  rw [h1] at h1'
  injection h1' with e1 _ _
  injection e1 with e1
  injection e1 with e1
  omega
theorem R_new' {W : World} (h : R d e w1 W.heap.size ok v xs) (hlt : ∀ k, u.ownBlock = some k → k < W.heap.size) : R d e w1 W.heap.size (fun k => ok k ∧ some k ≠ u.ownBlock) v xs := by
  obtain ⟨g, c, h1, h2, h3, h4, h5, h6⟩ := h
  exact ⟨g, c, h1, h2, h3, ⟨h4, fun e => by have := hlt g e.symm; omega⟩, h5, h6⟩
end
theorem made (w : World) (xs : List Int) (hl : xs.length ≤ 9223372036854775807) (fr : Nat × Nat) (cs : Array Value) (hcs : cs = (xs.map fun x => Value.int .u8 x).toArray) :
    R (Kd.int .u8) 5 (w.alloc (.cells cs 5 fr)) w.heap.size (fun _ => True) (.slice (some ⟨w.heap.size, 0, none⟩) xs.length xs.length) xs := by
  refine ⟨w.heap.size, xs.length, rfl, Nat.le_refl _, by simp, trivial, Nat.le_refl _, Kd.C_of_reads (d := (0 : Int)) (h1 := fun _ => rfl) ⟨rfl, hl, fun _ => ⟨_, rfl, fun i hi => ?_⟩⟩⟩
  rw [Addr.add_lit, Nat.zero_add, World.cell?_alloc_mark, hcs]
  simp [List.getD_eq_getElem?_getD, hi]
theorem cut_same {P : Program} {t : Sem Value} {W : World} {A B : Option Addr} {n m c d : Nat} (h1 : t.run P W = .ok (.slice A n c) W) (h2 : t.run P W = .ok (.slice B m d) W) : A = B := by
  rw [h1] at h2
  cases h2
  rfl
end Go.Proofs.Ytoimkmoalmmooaa.MR
