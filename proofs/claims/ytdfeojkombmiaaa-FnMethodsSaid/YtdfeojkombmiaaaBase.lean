/- Plain helpers for the statements over printed functions: bytes, words, rounds. No program in sight. -/
import Derived.Test.YtdfeojkombmiaaaWWords
import Derived.Test.YtdfeojkombmiaaaWMore
import Derived.Lib.Strings
namespace Go.Proofs.Ytdfeojkombmiaaa.Base
open Go.RowKit Go.Proofs.YtdfeojkombmiaaaW.PrintWords Go.Proofs.YtdfeojkombmiaaaW.PrintMore

/-- A text's bytes as whole numbers. -/
def ns (s : ByteArray) : List Int := s.data.toList.map fun c => (c.toNat : Int)
theorem ns_length (s : ByteArray) : (ns s).length = s.size := by rw [ns, List.length_map, ← Lib.size_eq]
theorem bt_ns (s : ByteArray) (i : Nat) : bt s (i : Int) = (ns s).getD i 0 := by
  unfold bt ns
  simp only [Int.toNat_natCast]
  split
  · rename_i h
    rw [List.getD_eq_getElem?_getD, List.getElem?_map]
    have h' : i < s.data.toList.length := by rw [← Lib.size_eq]; exact h
    rw [List.getElem?_eq_getElem h']
    rfl
  · rename_i h
    have h' : s.data.toList.length ≤ i := by rw [← Lib.size_eq]; omega
    rw [List.getD_eq_getElem?_getD, List.getElem?_map, List.getElem?_eq_none h']
    rfl
theorem ns_range (s : ByteArray) (x : Int) (h : x ∈ ns s) : 0 ≤ x ∧ x ≤ 255 := by
  obtain ⟨c, _, rfl⟩ := List.mem_map.1 h
  have := c.toNat_lt
  omega
theorem ns_inj {a b : ByteArray} (h : ns a = ns b) : a = b := by
  have h1 : a.data.toList = b.data.toList := by
    have hf : ∀ x y : UInt8, (x.toNat : Int) = (y.toNat : Int) → x = y := fun x y e => UInt8.toNat_inj.1 (by omega)
    unfold ns at h
    exact List.map_inj_right hf |>.1 h
  rw [← Lib.mk_data a, ← Lib.mk_data b, h1]
theorem toList_eq_iff (a b : ByteArray) : a.toList = b.toList ↔ a = b :=
  ⟨fun h => by rw [Lib.toList_data, Lib.toList_data] at h; rw [← Lib.mk_data a, ← Lib.mk_data b, h], fun h => by rw [h]⟩
theorem wrap_add {i : Int} (h0 : 0 ≤ i) (h : i ≤ 9223372036854775806) : wrap64 (i + 1) = i + 1 := by unfold wrap64; omega
theorem wrap_sub {i : Int} (h0 : 1 ≤ i) (h : i ≤ 9223372036854775806) : wrap64 (i - 1) = i - 1 := by unfold wrap64; omega
/-- Letters and digits. -/
def wB (x : Int) : Bool := (decide (65 ≤ x) && decide (x ≤ 90)) || (decide (97 ≤ x) && decide (x ≤ 122)) || (decide (48 ≤ x) && decide (x ≤ 57))
theorem or32_fin : ∀ n : Fin 256, (decide (Go.bits .or .u8 ((n.val : Nat) : Int) 32 < 97) || decide (Go.bits .or .u8 ((n.val : Nat) : Int) 32 > 122)) = !((decide (65 ≤ n.val) && decide (n.val ≤ 90)) || (decide (97 ≤ n.val) && decide (n.val ≤ 122))) := by
  decide +kernel
theorem rdOf_nat {α : Type} (d : α) (l : List α) (i : Nat) (h : i < l.length) : rdOf d l (i : Int) = l[i] := by
  unfold rdOf
  rw [Int.toNat_natCast, List.getD_eq_getElem?_getD, List.getElem?_eq_getElem h]
  rfl
theorem Ev.if_true {α : Type} {c : Prop} [Decidable c] {f g : Nat → Option α} {r : α} (h : c) (k : Ev f r) : Ev (fun n => if c then f n else g n) r := by
  simp only [if_pos h]; exact k
theorem Ev.if_false {α : Type} {c : Prop} [Decidable c] {f g : Nat → Option α} {r : α} (h : ¬ c) (k : Ev g r) : Ev (fun n => if c then f n else g n) r := by
  simp only [if_neg h]; exact k
theorem Ev.ite {α : Type} {c : Prop} [Decidable c] {f g : Nat → Option α} {r : α} (h : c → Ev f r) (k : ¬ c → Ev g r) : Ev (fun n => if c then f n else g n) r := by
  by_cases hc : c
  · exact Ev.if_true hc (h hc)
  · exact Ev.if_false hc (k hc)
theorem Ev.val {α : Type} {a r : α} (h : a = r) : Ev (fun _ => some a) r := h ▸ Ev.now a
/-- One that needs no rounds. -/
theorem Ev.call {α β : Type} {g : Option α} {f : Nat → α → Option β} {a : α} {r : β} (h : g = some a) (k : Ev (fun n => f n a) r) : Ev (fun n => g.bind (f n)) r := by
  simp only [h, Option.bind_some]; exact k
end Go.Proofs.Ytdfeojkombmiaaa.Base
