/- Texts of this claim, one behind the other (merged by wip/prune.py of this repo, without what the proof does not use): Base, GvNk. -/
import Derived.Test.YtgmjaggkiifdjaaDoorZT1
import Derived.Deep.RegionHeld3
import Derived.Laws.BitsLemmas
import Derived.Lib.Strings
import Derived.OrdersHeld
import Derived.RowKit
set_option linter.unusedVariables false
set_option linter.unusedSimpArgs false
namespace Go.Proofs.YtgmjaggkiifdjaaDoor.Base
open Go.RowKit Go.Proofs.YtgmjaggkiifdjaaDoorW.PrintWords
def ns (s : ByteArray) : List Int := s.data.toList.map fun c => (c.toNat : Int)
theorem ns_length (s : ByteArray) : (ns s).length = s.size := by rw [ns, List.length_map, ← Lib.size_eq]
theorem ns_range (s : ByteArray) (x : Int) (h : x ∈ ns s) : 0 ≤ x ∧ x ≤ 255 := by
  obtain ⟨c, _, rfl⟩ := List.mem_map.1 h
  have := c.toNat_lt
  omega
theorem toList_eq_iff (a b : ByteArray) : a.toList = b.toList ↔ a = b :=
  ⟨fun h => by rw [Lib.toList_data, Lib.toList_data] at h; rw [← Lib.mk_data a, ← Lib.mk_data b, h], fun h => by rw [h]⟩
theorem wrap_add {i : Int} (h0 : 0 ≤ i) (h : i ≤ 9223372036854775806) : wrap64 (i + 1) = i + 1 := by unfold wrap64; omega
theorem ns_strOfNums {xs : List Int} (h : ∀ x ∈ xs, 0 ≤ x ∧ x ≤ 255) : ns (strOfNums xs) = xs := by
  unfold ns
  rw [strOfNums_data, List.map_map]
  conv => rhs; rw [← List.map_id xs]
  refine List.map_congr_left (fun x hx => ?_)
  have := h x hx
  simp only [Function.comp_apply, id_eq, UInt8.toNat_ofNat']
  omega
theorem rdOf_nat {α : Type} (d : α) (l : List α) (i : Nat) (h : i < l.length) : rdOf d l (i : Int) = l[i] := by
  unfold rdOf
  rw [Int.toNat_natCast, List.getD_eq_getElem?_getD, List.getElem?_eq_getElem h]
  rfl
theorem Ev.if_true {α : Type} {c : Prop} [Decidable c] {f g : Nat → Option α} {r : α} (h : c) (k : Ev f r) : Ev (fun n => if c then f n else g n) r := by
  simp only [if_pos h]; exact k
theorem Ev.if_false {α : Type} {c : Prop} [Decidable c] {f g : Nat → Option α} {r : α} (h : ¬ c) (k : Ev g r) : Ev (fun n => if c then f n else g n) r := by
  simp only [if_neg h]; exact k
theorem Ev.ite {α : Type} {c : Prop} [Decidable c] {f g : Nat → Option α} {r : α} (h : c → Ev f r) (k : ¬ c → Ev g r) : Ev (fun n => if c then f n else g n) r := by
  by_cases hc : c
  · exact Ev.if_true hc (h hc)
  · exact Ev.if_false hc (k hc)
theorem Ev.val {α : Type} {a r : α} (h : a = r) : Ev (fun _ => some a) r := h ▸ Ev.now a
end Go.Proofs.YtgmjaggkiifdjaaDoor.Base
namespace Go.Proofs.YtgmjaggkiifdjaaDoor.Gv
open Go.RowKit Go.Proofs.YtgmjaggkiifdjaaDoor.Base
def lo (x : Int) : Int := if 65 ≤ x ∧ x ≤ 90 then x + 32 else x
end Go.Proofs.YtgmjaggkiifdjaaDoor.Gv
