/- Texts of this claim, one behind the other (merged by wip/prune.py of this repo, without what the proof does not use): Base, GvNk, LClean, LCleanI. -/
import Derived.Test.YtgmjaggkiifdjaaDoorZW2
import Derived.Lib.Strings
set_option linter.unusedVariables false
set_option linter.unusedSimpArgs false
namespace Go.Proofs.YtgmjaggkiifdjaaDoor.Base
open Go.RowKit Go.Proofs.YtgmjaggkiifdjaaDoorW.PrintWords Go.Proofs.YtgmjaggkiifdjaaDoorW.PrintMore
def ns (s : ByteArray) : List Int := s.data.toList.map fun c => (c.toNat : Int)
theorem ns_length (s : ByteArray) : (ns s).length = s.size := by rw [ns, List.length_map, ← Lib.size_eq]
theorem bt_ns (s : ByteArray) (i : Nat) : bt s (i : Int) = (ns s).getD i 0 := by
  unfold bt ns
  simp only [Int.toNat_natCast]
  split
  · rename_i h
    rw [List.getD_eq_getElem?_getD, List.getElem?_map]
    have h' : i < s.data.toList.length := by rw [← Lib.size_eq]; exact h
    rw [List.getElem?_eq_getElem h']
    rfl
  · rename_i h
    have h' : s.data.toList.length ≤ i := by rw [← Lib.size_eq]; omega
    rw [List.getD_eq_getElem?_getD, List.getElem?_map, List.getElem?_eq_none h']
    rfl
theorem ns_range (s : ByteArray) (x : Int) (h : x ∈ ns s) : 0 ≤ x ∧ x ≤ 255 := by
  obtain ⟨c, _, rfl⟩ := List.mem_map.1 h
  have := c.toNat_lt
  omega
theorem ns_inj {a b : ByteArray} (h : ns a = ns b) : a = b := by
  have h1 : a.data.toList = b.data.toList := by
    have hf : ∀ x y : UInt8, (x.toNat : Int) = (y.toNat : Int) → x = y := fun x y e => UInt8.toNat_inj.1 (by omega)
    unfold ns at h
    exact List.map_inj_right hf |>.1 h
  rw [← Lib.mk_data a, ← Lib.mk_data b, h1]
theorem toList_eq_iff (a b : ByteArray) : a.toList = b.toList ↔ a = b :=
  ⟨fun h => by rw [Lib.toList_data, Lib.toList_data] at h; rw [← Lib.mk_data a, ← Lib.mk_data b, h], fun h => by rw [h]⟩
theorem wrap_add {i : Int} (h0 : 0 ≤ i) (h : i ≤ 9223372036854775806) : wrap64 (i + 1) = i + 1 := by unfold wrap64; omega
theorem ns_append (a b : ByteArray) : ns (a ++ b) = ns a ++ ns b := by simp [ns, ByteArray.data_append]
theorem ns_extract (s : ByteArray) (i j : Nat) : ns (s.extract i j) = ((ns s).drop i).take (j - i) := by
  unfold ns
  rw [Lib.extract_data, List.map_take, List.map_drop]
theorem ns_strOfNums {xs : List Int} (h : ∀ x ∈ xs, 0 ≤ x ∧ x ≤ 255) : ns (strOfNums xs) = xs := by
  unfold ns
  rw [strOfNums_data, List.map_map]
  conv => rhs; rw [← List.map_id xs]
  refine List.map_congr_left (fun x hx => ?_)
  have := h x hx
  simp only [Function.comp_apply, id_eq, UInt8.toNat_ofNat']
  omega
theorem rdOf_nat {α : Type} (d : α) (l : List α) (i : Nat) (h : i < l.length) : rdOf d l (i : Int) = l[i] := by
  unfold rdOf
  rw [Int.toNat_natCast, List.getD_eq_getElem?_getD, List.getElem?_eq_getElem h]
  rfl
theorem Ev.if_true {α : Type} {c : Prop} [Decidable c] {f g : Nat → Option α} {r : α} (h : c) (k : Ev f r) : Ev (fun n => if c then f n else g n) r := by
  simp only [if_pos h]; exact k
theorem Ev.if_false {α : Type} {c : Prop} [Decidable c] {f g : Nat → Option α} {r : α} (h : ¬ c) (k : Ev g r) : Ev (fun n => if c then f n else g n) r := by
  simp only [if_neg h]; exact k
theorem Ev.ite {α : Type} {c : Prop} [Decidable c] {f g : Nat → Option α} {r : α} (h : c → Ev f r) (k : ¬ c → Ev g r) : Ev (fun n => if c then f n else g n) r := by
  by_cases hc : c
  · exact Ev.if_true hc (h hc)
  · exact Ev.if_false hc (k hc)
theorem Ev.val {α : Type} {a r : α} (h : a = r) : Ev (fun _ => some a) r := h ▸ Ev.now a
end Go.Proofs.YtgmjaggkiifdjaaDoor.Base
namespace Go.Proofs.YtgmjaggkiifdjaaDoor.Gv
open Go.RowKit Go.Proofs.YtgmjaggkiifdjaaDoor.Base
def lo (x : Int) : Int := if 65 ≤ x ∧ x ≤ 90 then x + 32 else x
def up (x : Int) : Int := if 97 ≤ x ∧ x ≤ 122 then x - 32 else x
def nkTail : List Int → List Int
  | [] => []
  | [x] => if x = 45 then [45] else [lo x]
  | x :: y :: l => if x = 45 then 45 :: up y :: nkTail l else lo x :: nkTail (y :: l)
def nk : List Int → List Int
  | [] => []
  | x :: l => up x :: nkTail l
theorem nkTail_hyp (y : Int) (l : List Int) : nkTail (45 :: y :: l) = 45 :: up y :: nkTail l := by simp [nkTail]
theorem nkTail_hyp1 : nkTail [45] = [45] := by simp [nkTail]
theorem nkTail_other (x : Int) (l : List Int) (h : x ≠ 45) : nkTail (x :: l) = lo x :: nkTail l := by
  cases l <;> simp [nkTail, h]
theorem nkTail_length : ∀ l : List Int, (nkTail l).length = l.length
  | [] => rfl
  | [x] => by unfold nkTail; split <;> rfl
  | x :: y :: l => by
    unfold nkTail
    split
    · simp [nkTail_length l]
    · simp [nkTail_length (y :: l)]
theorem nk_length (l : List Int) : (nk l).length = l.length := by
  cases l <;> simp [nk, nkTail_length]
theorem lo_range {x : Int} (h : 0 ≤ x ∧ x ≤ 255) : 0 ≤ lo x ∧ lo x ≤ 255 := by unfold lo; split <;> omega
theorem up_lo (x : Int) : up (lo x) = up x := by
  unfold up lo
  (repeat' split) <;> omega
end Go.Proofs.YtgmjaggkiifdjaaDoor.Gv
namespace Go.Proofs.YtgmjaggkiifdjaaDoor.Cln
open Go.RowKit Go.Proofs.YtgmjaggkiifdjaaDoor.Base
def backFrom (R : List Int) : Nat → Nat
  | 0 => 0
  | 1 => 1
  | w + 2 => if R.getD (w + 2) 0 = 47 then w + 2 else backFrom R (w + 1)
def backR (R : List Int) : List Int := if 1 < R.length then R.take (backFrom R (R.length - 1)) else R
def addE (R x : List Int) : List Int := (if 1 < R.length then R ++ [47] else R) ++ x
def nosl (c : Int) : Bool := decide (c ≠ 47)
def cl : Nat → List Int → List Int → Bool → List Int × Bool
  | 0, _, R, tr => (R, tr)
  | _ + 1, [], R, tr => (R, tr)
  | f + 1, c :: t, R, tr =>
    if c = 47 then cl f t R tr
    else if c = 46 ∧ t = [] then cl f [] R true
    else if c = 46 ∧ t.headD 0 = 47 then cl f (t.drop 1) R tr
    else if c = 46 ∧ t.headD 0 = 46 ∧ (t.length = 1 ∨ (t.drop 1).headD 0 = 47) then cl f (t.drop 2) (backR R) tr
    else cl f ((c :: t).dropWhile nosl) (addE R ((c :: t).takeWhile nosl)) tr
theorem cl_nil (f : Nat) (R : List Int) (tr : Bool) : cl f [] R tr = (R, tr) := by cases f <;> rfl
theorem cl_slash (f : Nat) (t R : List Int) (tr : Bool) : cl (f + 1) (47 :: t) R tr = cl f t R tr := by simp [cl]
theorem cl_dot (f : Nat) (t R : List Int) (tr : Bool) : cl (f + 1) (46 :: 47 :: t) R tr = cl f t R tr := by simp [cl]
theorem cl_back (f : Nat) (t R : List Int) (tr : Bool) : cl (f + 1) (46 :: 46 :: 47 :: t) R tr = cl f t (backR R) tr := by simp [cl]
def joinS : List (List Int) → List Int
  | [] => []
  | x :: xs => 47 :: (x ++ joinS xs)
def accOf (ys : List (List Int)) : List Int := if ys = [] then [47] else joinS ys
theorem joinS_append (a b : List (List Int)) : joinS (a ++ b) = joinS a ++ joinS b := by
  induction a with
  | nil => rfl
  | cons x a ih => simp [joinS, ih]
end Go.Proofs.YtgmjaggkiifdjaaDoor.Cln
namespace Go.Proofs.YtgmjaggkiifdjaaDoor.Cln
open Go.RowKit Go.Proofs.YtgmjaggkiifdjaaDoor.Base
def CInv (p : List Int) (d r : Nat) (R : List Int) (tr : Bool) (RES : List Int × Bool) : Prop :=
  1 ≤ R.length ∧ r ≤ p.length + 1 ∧ R.length ≤ r + d ∧ R.length ≤ p.length + d ∧
  (R.length = r + d → r + d = 1 ∨ (1 ≤ r ∧ p.getD (r - 1) 0 ≠ 47 ∧ (r = p.length ∨ p.getD r 0 = 47))) ∧
  (r = p.length + 1 → R.length < p.length + d) ∧
  (tr = true → (1 < p.length ∧ p.getD (p.length - 1) 0 = 47) ∨ (R.length < p.length + d ∧ p.length ≤ r)) ∧
  ∃ f, p.length - r ≤ f ∧ cl f (p.drop r) R tr = RES
theorem drop_at (p : List Int) (r : Nat) (h : r < p.length) : p.drop r = p.getD r 0 :: p.drop (r + 1) := by
  rw [List.drop_eq_getElem_cons h, List.getD_eq_getElem?_getD, List.getElem?_eq_getElem h]; rfl
theorem headD_drop (p : List Int) (r : Nat) : (p.drop r).headD 0 = p.getD r 0 := by
  rw [List.headD_eq_head?_getD, List.head?_drop, List.getD_eq_getElem?_getD]
section
variable {p : List Int} {d r : Nat} {R : List Int} {tr : Bool} {RES : List Int × Bool}
theorem CInv.fuel (h : CInv p d r R tr RES) (hr : r < p.length) : ∃ f, p.length - (r + 1) ≤ f ∧ cl (f + 1) (p.drop r) R tr = RES := by
  obtain ⟨_, _, _, _, _, _, _, f, hf, hc⟩ := h
  obtain ⟨g, rfl⟩ : ∃ g, f = g + 1 := ⟨f - 1, by omega⟩
  exact ⟨g, by omega, hc⟩
theorem CInv.exit (h : CInv p d r R tr RES) (hr : p.length ≤ r) : RES = (R, tr) ∧ (tr = true → 1 < R.length → R.length < p.length + d) := by
  obtain ⟨h1, h2, h3, h4, h5, h6, h7, f, hf, hc⟩ := h
  rw [List.drop_eq_nil_of_le hr, cl_nil] at hc
  refine ⟨hc.symm, fun ht hl => ?_⟩
  rcases h7 ht with ⟨q1, q2⟩ | ⟨q1, q2⟩
  · rcases Nat.lt_or_ge R.length (p.length + d) with k | k
    · exact k
    · have hrn : r = p.length := by
        rcases (by omega : r = p.length ∨ r = p.length + 1) with e | e
        · exact e
        · have := h6 e; omega
      rcases h5 (by omega) with e | ⟨e1, e2, e3⟩
      · omega
      · rw [hrn] at e2
        exact absurd q2 e2
  · exact q1
theorem CInv.slash (h : CInv p d r R tr RES) (hr : r < p.length) (hc : p.getD r 0 = 47) : CInv p d (r + 1) R tr RES := by
  obtain ⟨f, hf, hcl⟩ := h.fuel hr
  obtain ⟨h1, h2, h3, h4, h5, h6, h7, _⟩ := h
  rw [drop_at p r hr, hc, cl_slash] at hcl
  refine ⟨h1, by omega, by omega, h4, fun e => by omega, fun e => by omega, fun ht => ?_, f, hf, hcl⟩
  rcases h7 ht with q | ⟨q1, q2⟩
  · exact .inl q
  · omega
theorem CInv.dotEnd (h : CInv p d r R tr RES) (hr : r + 1 = p.length) (hc : p.getD r 0 = 46) : CInv p d (r + 1) R true RES := by
  obtain ⟨f, hf, hcl⟩ := h.fuel (by omega)
  obtain ⟨h1, h2, h3, h4, h5, h6, h7, _⟩ := h
  rw [drop_at p r (by omega), hc, List.drop_eq_nil_of_le (by omega)] at hcl
  have e : cl (f + 1) [46] R tr = cl f [] R true := by simp [cl]
  rw [e] at hcl
  refine ⟨h1, by omega, by omega, h4, fun e => by omega, fun e => by omega, fun ht => .inr ⟨by omega, by omega⟩, f, hf, ?_⟩
  rw [List.drop_eq_nil_of_le (by omega)]
  exact hcl
theorem CInv.dot (h : CInv p d r R tr RES) (hr : r + 1 < p.length) (hc : p.getD r 0 = 46) (hc2 : p.getD (r + 1) 0 = 47) : CInv p d (r + 2) R tr RES := by
  obtain ⟨f, hf, hcl⟩ := h.fuel (by omega)
  obtain ⟨h1, h2, h3, h4, h5, h6, h7, _⟩ := h
  rw [drop_at p r (by omega), hc, drop_at p (r + 1) hr, hc2, cl_dot] at hcl
  refine ⟨h1, by omega, by omega, h4, fun e => by omega, fun e => by omega, fun ht => ?_, f, by omega, hcl⟩
  rcases h7 ht with q | ⟨q1, q2⟩
  · exact .inl q
  · omega
theorem backFrom_le (R : List Int) : ∀ w, backFrom R w ≤ w
  | 0 => Nat.le_refl _
  | 1 => Nat.le_refl _
  | w + 2 => by
    unfold backFrom
    split
    · exact Nat.le_refl _
    · have := backFrom_le R (w + 1); omega
theorem backFrom_pos (R : List Int) : ∀ w, 1 ≤ w → 1 ≤ backFrom R w
  | 0, h => h
  | 1, h => h
  | w + 2, h => by
    unfold backFrom
    split
    · omega
    · exact backFrom_pos R (w + 1) (by omega)
theorem backR_len (R : List Int) (h : 1 ≤ R.length) : 1 ≤ (backR R).length ∧ (backR R).length ≤ R.length ∧ (1 < R.length → (backR R).length < R.length) := by
  unfold backR
  split
  · rename_i h1
    have a := backFrom_le R (R.length - 1)
    have b := backFrom_pos R (R.length - 1) (by omega)
    rw [List.length_take]
    omega
  · omega
theorem CInv.back (h : CInv p d r R tr RES) (hr : r + 1 < p.length) (hc : p.getD r 0 = 46) (hc2 : p.getD (r + 1) 0 = 46) (hc3 : r + 2 = p.length ∨ p.getD (r + 2) 0 = 47) : CInv p d (r + 3) (backR R) tr RES := by
  obtain ⟨f, hf, hcl⟩ := h.fuel (by omega)
  obtain ⟨h1, h2, h3, h4, h5, h6, h7, _⟩ := h
  have hb := backR_len R h1
  rw [drop_at p r (by omega), hc, drop_at p (r + 1) hr, hc2] at hcl
  have e : cl (f + 1) (46 :: 46 :: p.drop (r + 1 + 1)) R tr = cl f (p.drop (r + 3)) (backR R) tr := by
    have hh : (46 :: p.drop (r + 2)).length = 1 ∨ ((46 :: p.drop (r + 2)).drop 1).headD 0 = 47 := by
      rcases hc3 with e | e
      · left; rw [List.drop_eq_nil_of_le (by omega)]; rfl
      · right; rw [List.drop_one, List.tail_cons, headD_drop]; exact e
    have hdd : (46 :: p.drop (r + 2)).drop 2 = p.drop (r + 3) := by
      show (p.drop (r + 2)).drop 1 = _
      rw [List.drop_drop]
    have : cl (f + 1) (46 :: (46 :: p.drop (r + 2))) R tr = cl f ((46 :: p.drop (r + 2)).drop 2) (backR R) tr := by
      rw [cl, if_neg (by decide), if_neg (by simp), if_neg (by simp), if_pos ⟨rfl, rfl, hh⟩]
    rw [show r + 1 + 1 = r + 2 from rfl, this, hdd]
  rw [e] at hcl
  refine ⟨hb.1, by omega, by omega, by omega, fun e => by omega, fun e => by omega, fun ht => ?_, f, by omega, hcl⟩
  rcases h7 ht with q | ⟨q1, q2⟩
  · exact .inl q
  · omega
theorem backFrom_stop (R : List Int) (k : Nat) (h : k ≤ 1 ∨ R.getD k 0 = 47) : backFrom R k = k := by
  match k with
  | 0 => rfl
  | 1 => rfl
  | k + 2 =>
    unfold backFrom
    rw [if_pos]
    rcases h with h | h
    · omega
    · exact h
theorem backFrom_step (R : List Int) (k : Nat) (h1 : 1 < k) (h : R.getD k 0 ≠ 47) : backFrom R k = backFrom R (k - 1) := by
  obtain ⟨j, rfl⟩ : ∃ j, k = j + 2 := ⟨k - 2, by omega⟩
  conv => lhs; unfold backFrom
  rw [if_neg h]
  rfl
def WInv (p : List Int) (d r0 r : Nat) (R FIN : List Int) : Prop :=
  r0 ≤ r ∧ r ≤ p.length ∧ 1 ≤ R.length ∧ R.length ≤ r + d ∧ (r = r0 ∨ p.getD (r - 1) 0 ≠ 47) ∧ R ++ (p.drop r).takeWhile nosl = FIN ∧ (p.drop r0).dropWhile nosl = (p.drop r).dropWhile nosl
def wordCase (p : List Int) (r : Nat) : Prop := p.getD r 0 ≠ 47 ∧ ¬ (p.getD r 0 = 46 ∧ (r + 1 = p.length ∨ p.getD (r + 1) 0 = 47 ∨ (p.getD (r + 1) 0 = 46 ∧ (r + 2 = p.length ∨ p.getD (r + 2) 0 = 47))))
theorem CInv.room (h : CInv p d r R tr RES) (hr : r < p.length) (hc : p.getD r 0 ≠ 47) (h1 : 1 < R.length) : R.length < r + d := by
  obtain ⟨q1, q2, h3, h4, h5, h6, h7, _⟩ := h
  rcases Nat.lt_or_ge R.length (r + d) with k | k
  · exact k
  · rcases h5 (by omega) with e | ⟨_, _, e | e⟩
    · omega
    · omega
    · exact absurd e hc
theorem CInv.word (h : CInv p d r R tr RES) (hr : r < p.length) (hw : wordCase p r) : WInv p d r r (if 1 < R.length then R ++ [47] else R) (addE R ((p.drop r).takeWhile nosl)) := by
  have hroom := h.room hr hw.1
  obtain ⟨h1, h2, h3, h4, h5, h6, h7, _⟩ := h
  refine ⟨Nat.le_refl _, by omega, ?_, ?_, .inl rfl, rfl, rfl⟩
  · split
    · rw [List.length_append]; omega
    · exact h1
  · split
    · rename_i k
      have := hroom k
      rw [List.length_append, List.length_singleton]; omega
    · exact h3
theorem nosl_iff (c : Int) : nosl c = true ↔ c ≠ 47 := by unfold nosl; exact decide_eq_true_iff
theorem WInv.step {r0 : Nat} {FIN : List Int} (h : WInv p d r0 r R FIN) (hr : r < p.length) (hc : p.getD r 0 ≠ 47) : WInv p d r0 (r + 1) (R ++ [p.getD r 0]) FIN := by
  obtain ⟨h1, h2, h3, h4, h5, h6, h7⟩ := h
  rw [drop_at p r hr] at h6 h7
  rw [List.takeWhile_cons_of_pos ((nosl_iff _).2 hc)] at h6
  rw [List.dropWhile_cons_of_pos ((nosl_iff _).2 hc)] at h7
  refine ⟨by omega, by omega, by rw [List.length_append]; omega, by rw [List.length_append, List.length_singleton]; omega, .inr (by rw [Nat.add_sub_cancel]; exact hc), ?_, h7⟩
  rw [List.append_assoc]
  exact h6
theorem WInv.done {r0 : Nat} (h : CInv p d r0 R tr RES) (hr0 : r0 < p.length) (hw : wordCase p r0) {R' : List Int} (k : WInv p d r0 r R' (addE R ((p.drop r0).takeWhile nosl))) (he : r = p.length ∨ p.getD r 0 = 47) : CInv p d r R' tr RES := by
  obtain ⟨f, hf, hcl⟩ := h.fuel hr0
  obtain ⟨h1, h2, h3, h4, h5, h6, h7, _⟩ := h
  obtain ⟨k1, k2, k3, k4, k5, k6, k7⟩ := k
  have hne : r ≠ r0 := fun e => by
    rcases he with e' | e'
    · omega
    · rw [e] at e'; exact hw.1 e'
  have htk : (p.drop r).takeWhile nosl = [] := by
    rcases he with e | e
    · rw [List.drop_eq_nil_of_le (by omega)]; rfl
    · rcases Nat.lt_or_ge r p.length with q | q
      · rw [drop_at p r q, List.takeWhile_cons_of_neg (by rw [nosl_iff]; simpa using e)]
      · rw [List.drop_eq_nil_of_le q]; rfl
  have hdw : (p.drop r).dropWhile nosl = p.drop r := by
    have := List.takeWhile_append_dropWhile (p := nosl) (l := p.drop r)
    rw [htk, List.nil_append] at this
    exact this
  rw [htk, List.append_nil] at k6
  have hc1 : cl (f + 1) (p.drop r0) R tr = cl f ((p.drop r0).dropWhile nosl) (addE R ((p.drop r0).takeWhile nosl)) tr := by
    conv => lhs; rw [drop_at p r0 hr0]
    conv => rhs; rw [drop_at p r0 hr0]
    simp only [cl]
    have hl : (p.drop (r0 + 1) = []) ↔ r0 + 1 = p.length := by
      rw [List.drop_eq_nil_iff]; omega
    have hl2 : (p.drop (r0 + 1)).length = 1 ↔ r0 + 2 = p.length := by rw [List.length_drop]; omega
    have hd2 : ((p.drop (r0 + 1)).drop 1).headD 0 = p.getD (r0 + 2) 0 := by rw [List.drop_drop, headD_drop]
    have n1 := hw.1
    have n2 := hw.2
    rw [if_neg n1, if_neg (fun q => n2 ⟨q.1, .inl (hl.1 q.2)⟩), if_neg (fun q => n2 ⟨q.1, .inr (.inl ((headD_drop _ _).symm.trans q.2))⟩), if_neg (fun q => n2 ⟨q.1, .inr (.inr ⟨(headD_drop _ _).symm.trans q.2.1, q.2.2.imp hl2.1 (fun e => hd2.symm.trans e)⟩)⟩)]
  rw [hc1, k7, hdw, ← k6] at hcl
  refine ⟨k3, by omega, k4, by omega, fun e => .inr ⟨by omega, ?_, he.imp id id⟩, fun e => by omega, fun ht => ?_, f, by omega, hcl⟩
  · rcases k5 with e' | e'
    · exact absurd e' hne
    · exact e'
  · rcases h7 ht with q | ⟨q1, q2⟩
    · exact .inl q
    · omega
end
def cleanG (p : List Int) : List Int :=
  if p = [] then [47] else
  let z := cl p.length (if p.headD 0 = 47 then p.drop 1 else p) [47] (decide (1 < p.length) && decide (p.getD (p.length - 1) 0 = 47))
  if z.2 = true ∧ 1 < z.1.length then z.1 ++ [47] else z.1
theorem CInv.start (p : List Int) (hp : p ≠ []) (hs : p.headD 0 = 47) : CInv p 0 1 [47] (decide (1 < p.length) && decide (p.getD (p.length - 1) 0 = 47)) (cl p.length (p.drop 1) [47] (decide (1 < p.length) && decide (p.getD (p.length - 1) 0 = 47))) := by
  have := List.length_pos_iff.2 hp
  refine ⟨by simp, by omega, by simp, by simp; omega, fun _ => .inl rfl, fun e => by omega, fun ht => ?_, p.length, by omega, rfl⟩
  simp only [Bool.and_eq_true, decide_eq_true_eq] at ht
  exact .inl ht
theorem CInv.start' (p : List Int) (hp : p ≠ []) : CInv p 1 0 [47] (decide (1 < p.length) && decide (p.getD (p.length - 1) 0 = 47)) (cl p.length p [47] (decide (1 < p.length) && decide (p.getD (p.length - 1) 0 = 47))) := by
  have := List.length_pos_iff.2 hp
  refine ⟨by simp, by omega, by simp, by simp, fun _ => .inl rfl, fun e => by omega, fun ht => ?_, p.length, by omega, by rw [List.drop_zero]⟩
  simp only [Bool.and_eq_true, decide_eq_true_eq] at ht
  exact .inl ht
end Go.Proofs.YtgmjaggkiifdjaaDoor.Cln
