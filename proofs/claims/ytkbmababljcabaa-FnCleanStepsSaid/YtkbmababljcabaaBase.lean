/- Plain helpers for the statements over printed functions: bytes, words, rounds. No program in sight. -/
import Derived.Test.YtkbmababljcabaaWWords
import Derived.Test.YtkbmababljcabaaWMore
import Derived.Lib.Strings
namespace Go.Proofs.Ytkbmababljcabaa.Base
open Go.RowKit Go.Proofs.YtkbmababljcabaaW.PrintWords Go.Proofs.YtkbmababljcabaaW.PrintMore

/-- A text's bytes as whole numbers. -/
def ns (s : ByteArray) : List Int := s.data.toList.map fun c => (c.toNat : Int)
theorem ns_length (s : ByteArray) : (ns s).length = s.size := by rw [ns, List.length_map, ← Lib.size_eq]
theorem bt_ns (s : ByteArray) (i : Nat) : bt s (i : Int) = (ns s).getD i 0 := by
  unfold bt ns
  simp only [Int.toNat_natCast]
  split
  · rename_i h
    rw [List.getD_eq_getElem?_getD, List.getElem?_map]
    have h' : i < s.data.toList.length := by rw [← Lib.size_eq]; exact h
    rw [List.getElem?_eq_getElem h']
    rfl
  · rename_i h
    have h' : s.data.toList.length ≤ i := by rw [← Lib.size_eq]; omega
    rw [List.getD_eq_getElem?_getD, List.getElem?_map, List.getElem?_eq_none h']
    rfl
theorem ns_range (s : ByteArray) (x : Int) (h : x ∈ ns s) : 0 ≤ x ∧ x ≤ 255 := by
  obtain ⟨c, _, rfl⟩ := List.mem_map.1 h
  have := c.toNat_lt
  omega
theorem ns_inj {a b : ByteArray} (h : ns a = ns b) : a = b := by
  have h1 : a.data.toList = b.data.toList := by
    have hf : ∀ x y : UInt8, (x.toNat : Int) = (y.toNat : Int) → x = y := fun x y e => UInt8.toNat_inj.1 (by omega)
    unfold ns at h
    exact List.map_inj_right hf |>.1 h
  rw [← Lib.mk_data a, ← Lib.mk_data b, h1]
theorem toList_eq_iff (a b : ByteArray) : a.toList = b.toList ↔ a = b :=
  ⟨fun h => by rw [Lib.toList_data, Lib.toList_data] at h; rw [← Lib.mk_data a, ← Lib.mk_data b, h], fun h => by rw [h]⟩
theorem wrap_add {i : Int} (h0 : 0 ≤ i) (h : i ≤ 9223372036854775806) : wrap64 (i + 1) = i + 1 := by unfold wrap64; omega
theorem wrap_sub {i : Int} (h0 : 1 ≤ i) (h : i ≤ 9223372036854775806) : wrap64 (i - 1) = i - 1 := by unfold wrap64; omega
/-- Letters and digits. -/
def wB (x : Int) : Bool := (decide (65 ≤ x) && decide (x ≤ 90)) || (decide (97 ≤ x) && decide (x ≤ 122)) || (decide (48 ≤ x) && decide (x ≤ 57))
theorem or32_fin : ∀ n : Fin 256, (Go.bits .or .u8 ((n.val : Nat) : Int) 32 < 97 ∨ Go.bits .or .u8 ((n.val : Nat) : Int) 32 > 122) ↔ ¬ ((65 ≤ n.val ∧ n.val ≤ 90) ∨ (97 ≤ n.val ∧ n.val ≤ 122)) := by
  decide +kernel
theorem or32_lt (c : Int) (h0 : 0 ≤ c) (h1 : c ≤ 255) : (Go.bits .or .u8 c 32 < 97 ∨ Go.bits .or .u8 c 32 > 122) ↔ ¬ ((65 ≤ c ∧ c ≤ 90) ∨ (97 ≤ c ∧ c ≤ 122)) := by
  obtain ⟨n, rfl⟩ := Int.eq_ofNat_of_zero_le h0
  have h := or32_fin ⟨n, by omega⟩
  simp only at h
  omega
theorem word_round {α : Type} (c : Int) (h0 : 0 ≤ c) (h1 : c ≤ 255) (F T : α) :
    (if Go.bits .or .u8 c 32 < 97 then (if c < 48 then F else (if c > 57 then F else T)) else (if Go.bits .or .u8 c 32 > 122 then (if c < 48 then F else (if c > 57 then F else T)) else T)) = if wB c = true then T else F := by
  have h := or32_lt c h0 h1
  have hw : wB c = true ↔ (65 ≤ c ∧ c ≤ 90) ∨ (97 ≤ c ∧ c ≤ 122) ∨ (48 ≤ c ∧ c ≤ 57) := by simp [wB, or_assoc]
  by_cases hb : wB c = true
  · rw [if_pos hb]
    rw [hw] at hb
    by_cases a : Go.bits .or .u8 c 32 < 97
    · rw [if_pos a, if_neg (by omega), if_neg (by omega)]
    · rw [if_neg a]
      by_cases b : Go.bits .or .u8 c 32 > 122
      · rw [if_pos b, if_neg (by omega), if_neg (by omega)]
      · rw [if_neg b]
  · rw [if_neg hb]
    rw [hw] at hb
    by_cases a : Go.bits .or .u8 c 32 < 97
    · rw [if_pos a]
      by_cases d : c < 48
      · rw [if_pos d]
      · rw [if_neg d, if_pos (by omega)]
    · rw [if_neg a, if_pos (by omega)]
      by_cases d : c < 48
      · rw [if_pos d]
      · rw [if_neg d, if_pos (by omega)]
/-- A text of letters and digits, and one. -/
def isWord (s : ByteArray) : Bool := (ns s).all wB && !(ns s).isEmpty
theorem toList_ne_nil (s : ByteArray) : (s.toList != ([] : List UInt8)) = !(ns s).isEmpty := by
  rw [Lib.toList_data]
  unfold ns
  cases s.data.toList <;> rfl
theorem ns_append (a b : ByteArray) : ns (a ++ b) = ns a ++ ns b := by simp [ns, ByteArray.data_append]
theorem ns_extract (s : ByteArray) (i j : Nat) : ns (s.extract i j) = ((ns s).drop i).take (j - i) := by
  unfold ns
  rw [Lib.extract_data, List.map_take, List.map_drop]
theorem bt_at_ns (s : ByteArray) (i : Int) (h0 : 0 ≤ i) : bt s i = (ns s).getD i.toNat 0 := by
  obtain ⟨n, rfl⟩ := Int.eq_ofNat_of_zero_le h0
  rw [bt_ns, Int.toNat_natCast]
/-- A word: each of its bytes is a letter or a digit, and there is one. -/
theorem isWord_at {s : ByteArray} (h : isWord s = true) : 1 ≤ s.size ∧ ∀ i : Nat, i < s.size → wB (bt s i) = true := by
  unfold isWord at h
  simp only [Bool.and_eq_true, List.all_eq_true, Bool.not_eq_true', List.isEmpty_eq_false_iff] at h
  refine ⟨?_, fun i hi => ?_⟩
  · have := List.length_pos_iff.2 h.2
    rw [ns_length] at this
    exact this
  · have hlt : i < (ns s).length := by rw [ns_length]; exact hi
    rw [bt_ns, List.getD_eq_getElem?_getD, List.getElem?_eq_getElem hlt]
    exact h.1 _ (List.getElem_mem hlt)
theorem wB_ne {x : Int} (h : wB x = true) : x ≠ 32 ∧ x ≠ 34 ∧ x ≠ 44 ∧ x ≠ 45 ∧ x ≠ 46 ∧ x ≠ 47 ∧ x ≠ 58 ∧ x ≠ 59 ∧ x ≠ 61 ∧ x ≠ 91 ∧ x ≠ 92 ∧ x ≠ 93 ∧ x ≠ 9 ∧ x ≠ 10 ∧ x ≠ 13 ∧ x ≠ 42 := by
  simp only [wB, Bool.or_eq_true, Bool.and_eq_true, decide_eq_true_eq] at h
  omega
theorem ns_strOfNums {xs : List Int} (h : ∀ x ∈ xs, 0 ≤ x ∧ x ≤ 255) : ns (strOfNums xs) = xs := by
  unfold ns
  rw [strOfNums_data, List.map_map]
  conv => rhs; rw [← List.map_id xs]
  refine List.map_congr_left (fun x hx => ?_)
  have := h x hx
  simp only [Function.comp_apply, id_eq, UInt8.toNat_ofNat']
  omega
theorem wf_u8 {c : Int} (h : (Lit.int .u8 c).wf = true) : 0 ≤ c ∧ c ≤ 255 := by
  have a : IntKind.u8.min = 0 := by decide
  have b : IntKind.u8.max = 255 := by decide
  simp [Lit.wf] at h
  omega
theorem wf_i64 {c : Int} (h : (Lit.int .i64 c).wf = true) : -9223372036854775808 ≤ c ∧ c ≤ 9223372036854775807 := by
  have a : IntKind.i64.min = -9223372036854775808 := by decide
  have b : IntKind.i64.max = 9223372036854775807 := by decide
  simp [Lit.wf] at h
  omega
theorem rdOf_nat {α : Type} (d : α) (l : List α) (i : Nat) (h : i < l.length) : rdOf d l (i : Int) = l[i] := by
  unfold rdOf
  rw [Int.toNat_natCast, List.getD_eq_getElem?_getD, List.getElem?_eq_getElem h]
  rfl
theorem Ev.if_true {α : Type} {c : Prop} [Decidable c] {f g : Nat → Option α} {r : α} (h : c) (k : Ev f r) : Ev (fun n => if c then f n else g n) r := by
  simp only [if_pos h]; exact k
theorem Ev.if_false {α : Type} {c : Prop} [Decidable c] {f g : Nat → Option α} {r : α} (h : ¬ c) (k : Ev g r) : Ev (fun n => if c then f n else g n) r := by
  simp only [if_neg h]; exact k
theorem Ev.ite {α : Type} {c : Prop} [Decidable c] {f g : Nat → Option α} {r : α} (h : c → Ev f r) (k : ¬ c → Ev g r) : Ev (fun n => if c then f n else g n) r := by
  by_cases hc : c
  · exact Ev.if_true hc (h hc)
  · exact Ev.if_false hc (k hc)
theorem Ev.val {α : Type} {a r : α} (h : a = r) : Ev (fun _ => some a) r := h ▸ Ev.now a
/-- One that needs no rounds. -/
theorem Ev.call {α β : Type} {g : Option α} {f : Nat → α → Option β} {a : α} {r : β} (h : g = some a) (k : Ev (fun n => f n a) r) : Ev (fun n => g.bind (f n)) r := by
  simp only [h, Option.bind_some]; exact k
end Go.Proofs.Ytkbmababljcabaa.Base
