/- Texts of this claim, one behind the other (merged by wip/prune.py of this repo, without what the proof does not use): Base, GvNk. -/
import Derived.Test.YtcbpbmflgcgmaaaDoorZA3
import Derived.Lib.Strings
set_option linter.unusedVariables false
set_option linter.unusedSimpArgs false
namespace Go.Proofs.YtcbpbmflgcgmaaaDoor.Base
open Go.RowKit Go.Proofs.YtcbpbmflgcgmaaaDoorW.PrintWords Go.Proofs.YtcbpbmflgcgmaaaDoorW.PrintMore
def ns (s : ByteArray) : List Int := s.data.toList.map fun c => (c.toNat : Int)
theorem ns_length (s : ByteArray) : (ns s).length = s.size := by rw [ns, List.length_map, ← Lib.size_eq]
theorem bt_ns (s : ByteArray) (i : Nat) : bt s (i : Int) = (ns s).getD i 0 := by
  unfold bt ns
  simp only [Int.toNat_natCast]
  split
  · rename_i h
    rw [List.getD_eq_getElem?_getD, List.getElem?_map]
    have h' : i < s.data.toList.length := by rw [← Lib.size_eq]; exact h
    rw [List.getElem?_eq_getElem h']
    rfl
  · rename_i h
    have h' : s.data.toList.length ≤ i := by rw [← Lib.size_eq]; omega
    rw [List.getD_eq_getElem?_getD, List.getElem?_map, List.getElem?_eq_none h']
    rfl
theorem ns_range (s : ByteArray) (x : Int) (h : x ∈ ns s) : 0 ≤ x ∧ x ≤ 255 := by
  obtain ⟨c, _, rfl⟩ := List.mem_map.1 h
  have := c.toNat_lt
  omega
theorem ns_inj {a b : ByteArray} (h : ns a = ns b) : a = b := by
  have h1 : a.data.toList = b.data.toList := by
    have hf : ∀ x y : UInt8, (x.toNat : Int) = (y.toNat : Int) → x = y := fun x y e => UInt8.toNat_inj.1 (by omega)
    unfold ns at h
    exact List.map_inj_right hf |>.1 h
  rw [← Lib.mk_data a, ← Lib.mk_data b, h1]
theorem toList_eq_iff (a b : ByteArray) : a.toList = b.toList ↔ a = b :=
  ⟨fun h => by rw [Lib.toList_data, Lib.toList_data] at h; rw [← Lib.mk_data a, ← Lib.mk_data b, h], fun h => by rw [h]⟩
theorem wrap_add {i : Int} (h0 : 0 ≤ i) (h : i ≤ 9223372036854775806) : wrap64 (i + 1) = i + 1 := by unfold wrap64; omega
def wB (x : Int) : Bool := (decide (65 ≤ x) && decide (x ≤ 90)) || (decide (97 ≤ x) && decide (x ≤ 122)) || (decide (48 ≤ x) && decide (x ≤ 57))
theorem or32_fin : ∀ n : Fin 256, (Go.bits .or .u8 ((n.val : Nat) : Int) 32 < 97 ∨ Go.bits .or .u8 ((n.val : Nat) : Int) 32 > 122) ↔ ¬ ((65 ≤ n.val ∧ n.val ≤ 90) ∨ (97 ≤ n.val ∧ n.val ≤ 122)) := by
  decide +kernel
theorem or32_lt (c : Int) (h0 : 0 ≤ c) (h1 : c ≤ 255) : (Go.bits .or .u8 c 32 < 97 ∨ Go.bits .or .u8 c 32 > 122) ↔ ¬ ((65 ≤ c ∧ c ≤ 90) ∨ (97 ≤ c ∧ c ≤ 122)) := by
  obtain ⟨n, rfl⟩ := Int.eq_ofNat_of_zero_le h0
  have h := or32_fin ⟨n, by omega⟩
  simp only at h
  omega
theorem word_round {α : Type} (c : Int) (h0 : 0 ≤ c) (h1 : c ≤ 255) (F T : α) :
    (if Go.bits .or .u8 c 32 < 97 then (if c < 48 then F else (if c > 57 then F else T)) else (if Go.bits .or .u8 c 32 > 122 then (if c < 48 then F else (if c > 57 then F else T)) else T)) = if wB c = true then T else F := by
  have h := or32_lt c h0 h1
  have hw : wB c = true ↔ (65 ≤ c ∧ c ≤ 90) ∨ (97 ≤ c ∧ c ≤ 122) ∨ (48 ≤ c ∧ c ≤ 57) := by simp [wB, or_assoc]
  by_cases hb : wB c = true
  · rw [if_pos hb]
    rw [hw] at hb
    by_cases a : Go.bits .or .u8 c 32 < 97
    · rw [if_pos a, if_neg (by omega), if_neg (by omega)]
    · rw [if_neg a]
      by_cases b : Go.bits .or .u8 c 32 > 122
      · rw [if_pos b, if_neg (by omega), if_neg (by omega)]
      · rw [if_neg b]
  · rw [if_neg hb]
    rw [hw] at hb
    by_cases a : Go.bits .or .u8 c 32 < 97
    · rw [if_pos a]
      by_cases d : c < 48
      · rw [if_pos d]
      · rw [if_neg d, if_pos (by omega)]
    · rw [if_neg a, if_pos (by omega)]
      by_cases d : c < 48
      · rw [if_pos d]
      · rw [if_neg d, if_pos (by omega)]
def isWord (s : ByteArray) : Bool := (ns s).all wB && !(ns s).isEmpty
theorem toList_ne_nil (s : ByteArray) : (s.toList != ([] : List UInt8)) = !(ns s).isEmpty := by
  rw [Lib.toList_data]
  unfold ns
  cases s.data.toList <;> rfl
theorem ns_append (a b : ByteArray) : ns (a ++ b) = ns a ++ ns b := by simp [ns, ByteArray.data_append]
theorem ns_extract (s : ByteArray) (i j : Nat) : ns (s.extract i j) = ((ns s).drop i).take (j - i) := by
  unfold ns
  rw [Lib.extract_data, List.map_take, List.map_drop]
theorem ns_strOfNums {xs : List Int} (h : ∀ x ∈ xs, 0 ≤ x ∧ x ≤ 255) : ns (strOfNums xs) = xs := by
  unfold ns
  rw [strOfNums_data, List.map_map]
  conv => rhs; rw [← List.map_id xs]
  refine List.map_congr_left (fun x hx => ?_)
  have := h x hx
  simp only [Function.comp_apply, id_eq, UInt8.toNat_ofNat']
  omega
theorem rdOf_nat {α : Type} (d : α) (l : List α) (i : Nat) (h : i < l.length) : rdOf d l (i : Int) = l[i] := by
  unfold rdOf
  rw [Int.toNat_natCast, List.getD_eq_getElem?_getD, List.getElem?_eq_getElem h]
  rfl
theorem Ev.if_true {α : Type} {c : Prop} [Decidable c] {f g : Nat → Option α} {r : α} (h : c) (k : Ev f r) : Ev (fun n => if c then f n else g n) r := by
  simp only [if_pos h]; exact k
theorem Ev.if_false {α : Type} {c : Prop} [Decidable c] {f g : Nat → Option α} {r : α} (h : ¬ c) (k : Ev g r) : Ev (fun n => if c then f n else g n) r := by
  simp only [if_neg h]; exact k
theorem Ev.ite {α : Type} {c : Prop} [Decidable c] {f g : Nat → Option α} {r : α} (h : c → Ev f r) (k : ¬ c → Ev g r) : Ev (fun n => if c then f n else g n) r := by
  by_cases hc : c
  · exact Ev.if_true hc (h hc)
  · exact Ev.if_false hc (k hc)
theorem Ev.val {α : Type} {a r : α} (h : a = r) : Ev (fun _ => some a) r := h ▸ Ev.now a
theorem Ev.call {α β : Type} {g : Option α} {f : Nat → α → Option β} {a : α} {r : β} (h : g = some a) (k : Ev (fun n => f n a) r) : Ev (fun n => g.bind (f n)) r := by
  simp only [h, Option.bind_some]; exact k
end Go.Proofs.YtcbpbmflgcgmaaaDoor.Base
namespace Go.Proofs.YtcbpbmflgcgmaaaDoor.Gv
open Go.RowKit Go.Proofs.YtcbpbmflgcgmaaaDoor.Base
def lo (x : Int) : Int := if 65 ≤ x ∧ x ≤ 90 then x + 32 else x
def up (x : Int) : Int := if 97 ≤ x ∧ x ≤ 122 then x - 32 else x
def nkTail : List Int → List Int
  | [] => []
  | [x] => if x = 45 then [45] else [lo x]
  | x :: y :: l => if x = 45 then 45 :: up y :: nkTail l else lo x :: nkTail (y :: l)
def nk : List Int → List Int
  | [] => []
  | x :: l => up x :: nkTail l
theorem nkTail_hyp (y : Int) (l : List Int) : nkTail (45 :: y :: l) = 45 :: up y :: nkTail l := by simp [nkTail]
theorem nkTail_hyp1 : nkTail [45] = [45] := by simp [nkTail]
theorem nkTail_other (x : Int) (l : List Int) (h : x ≠ 45) : nkTail (x :: l) = lo x :: nkTail l := by
  cases l <;> simp [nkTail, h]
theorem nkTail_length : ∀ l : List Int, (nkTail l).length = l.length
  | [] => rfl
  | [x] => by unfold nkTail; split <;> rfl
  | x :: y :: l => by
    unfold nkTail
    split
    · simp [nkTail_length l]
    · simp [nkTail_length (y :: l)]
theorem nk_length (l : List Int) : (nk l).length = l.length := by
  cases l <;> simp [nk, nkTail_length]
end Go.Proofs.YtcbpbmflgcgmaaaDoor.Gv
