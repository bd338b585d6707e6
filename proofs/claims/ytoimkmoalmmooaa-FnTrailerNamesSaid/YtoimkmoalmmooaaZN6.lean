/- Texts of this claim, one behind the other (merged by wip/prune.py of this repo, without what the proof does not use): LName, LUpd, LWordOne, LNameOne, LSamePairs, LTrail, LJoined, LJoinedC, LFits, PureFnTrailerNames, RowStr, LawFnTrailerNames. -/
import Derived.Test.YtoimkmoalmmooaaZN5
import Derived.ChangeOld
import Derived.OpenShut
import Derived.ProofKit
import Derived.ShutString
import Derived.SliceStrings
import Derived.Test.YtoimkmoalmmooaaRows
set_option linter.unusedVariables false
set_option linter.unusedSimpArgs false
namespace Go.Proofs.Ytoimkmoalmmooaa.Own
open Go.RowKit Go.Proofs.YtoimkmoalmmooaaW.PrintWords Go.Proofs.YtoimkmoalmmooaaW.PrintLast Go.Proofs.YtoimkmoalmmooaaW.PrintMore Go.Proofs.Ytoimkmoalmmooaa.Base Go.Proofs.Ytoimkmoalmmooaa.Gv Go.Proofs.Ytoimkmoalmmooaa.Given Go.Proofs.Ytoimkmoalmmooaa.QA
theorem idx_none (c : Int) : ∀ (K : List Int), (∀ x ∈ K, x ≠ c) → idx K c = -1
  | [], _ => rfl
  | x :: l, h => by
    rw [idx, if_neg (h x (by simp)), idx_none c l (fun y hy => h y (List.mem_cons_of_mem _ hy)), if_pos rfl]
theorem cutI_none {K : List Int} (h : ∀ x ∈ K, x ≠ 44) : cutI K = K.length := by rw [cutI, if_pos (idx_none 44 K h)]
theorem trimL_none : ∀ {K : List Int}, (∀ x ∈ K, x ≠ 32) → trimL K = K
  | [], _ => rfl
  | x :: l, h => trimL_hd x l (h x (by simp))
theorem trimR_none {K : List Int} (h : ∀ x ∈ K, x ≠ 32) : trimR K = K := by
  unfold trimR
  have := trimL_none (K := K.reverse) (fun x hx => h x (List.mem_reverse.1 hx))
  unfold trimL at this
  rw [this, List.reverse_reverse]
theorem keyT_word (dn : Bool) {K : List Int} (h : ∀ x ∈ K, x ≠ 44 ∧ x ≠ 32) : keyT dn K = nkd dn K := by
  unfold keyT
  rw [cutI_none (fun x hx => (h x hx).1), List.take_length, trimL_none (fun x hx => (h x hx).2), trimR_none (fun x hx => (h x hx).2)]
theorem setGo_one (dn : Bool) (f : Nat) {K : List Int} (hK : K ≠ []) (h : ∀ x ∈ K, x ≠ 44 ∧ x ≠ 32) (acc : List KVx) (b : Bool) :
    setGo dn (f + 1) K acc b = some (if badK (nkd dn K) = true then acc else acc ++ [⟨nkd dn K, [], true⟩], badK (nkd dn K)) := by
  cases K with
  | nil => exact absurd rfl hK
  | cons y ys =>
    have hk := keyT_word dn h
    have hne : ¬ keyT dn (y :: ys) = [] := by
      rw [hk]; intro e
      have := congrArg List.length e
      rw [nkd_length] at this; simp at this
    have hc := cutI_none (K := y :: ys) (fun x hx => (h x hx).1)
    rw [setGo, if_neg hne, hk, hc, List.drop_eq_nil_of_le (by omega)]
    cases f <;> rfl
theorem badK_x {K : List Int} (h : (K.map o32).headD 0 = 120) : badK K = false := bad_x _ h
theorem nkd_x {K : List Int} (dn : Bool) (h : (K.map o32).headD 0 = 120) (hr : ∀ x ∈ K, 0 ≤ x ∧ x ≤ 255) : ((nkd dn K).map o32).headD 0 = 120 := by
  cases dn with
  | true => exact h
  | false =>
    cases K with
    | nil => exact absurd h (by decide)
    | cons x l =>
      have hx := hr x (by simp)
      have h' : o32 x = 120 := h
      show o32 (Gv.up x) = 120
      unfold Gv.up
      split
      · obtain ⟨n, rfl⟩ : ∃ n : Nat, x = n := ⟨x.toNat, by omega⟩
        have : ∀ m : Fin 256, o32 ((m.val : Nat) : Int) = 120 → o32 (((m.val : Nat) : Int) - 32) = 120 ∨ ¬ (97 ≤ m.val) := by decide +kernel
        rcases this ⟨n, by omega⟩ h' with k | k
        · exact k
        · simp at k; omega
      · exact h'
theorem stepF_4 (dn : Bool) (L : List KVx) (s : Step) (hd : s.f0 = 4) (hL : L.length ≤ 1000000) (h1 : s.f1.size ≤ 1000000) (h2 : s.f2.size ≤ 1000000) : stepF dn L s = (setGo dn s.f2.size (ns s.f2) [] false).map fun r => ((⟨#[]⟩, !r.2, []), dn, r.1) := by
  unfold stepF
  rw [if_neg (by omega), if_neg (by omega), if_neg (by omega), if_neg (by omega), if_pos hd]
theorem stepF_7 (dn : Bool) (L : List KVx) (s : Step) (hd : s.f0 = 7) (hL : L.length ≤ 1000000) (h1 : s.f1.size ≤ 1000000) (h2 : s.f2.size ≤ 1000000) : stepF dn L s = some ((⟨#[]⟩, false, L.map toP), dn, L) := by
  unfold stepF
  rw [if_neg (by omega), if_neg (by omega), if_neg (by omega), if_neg (by omega), if_neg (by omega), if_neg (by omega), if_neg (by omega), if_pos hd]
end Go.Proofs.Ytoimkmoalmmooaa.Own
set_option linter.unusedVariables false
set_option linter.unusedSimpArgs false
namespace Go.Proofs.Ytoimkmoalmmooaa.Own
open Go.RowKit Go.Proofs.YtoimkmoalmmooaaW.PrintWords Go.Proofs.YtoimkmoalmmooaaW.PrintLast Go.Proofs.YtoimkmoalmmooaaW.PrintMore Go.Proofs.Ytoimkmoalmmooaa.Base Go.Proofs.Ytoimkmoalmmooaa.Gv Go.Proofs.Ytoimkmoalmmooaa.Given Go.Proofs.Ytoimkmoalmmooaa.QA
theorem script_cons {dn : Bool} {L : List KVx} {acc : List Ans} {s : Step} {r : List Step} {T : ByteArray} {is : Bool} {P : List Pair} {dn' : Bool} {L' : List KVx} (h : stepF dn L s = some ((T, is, P), dn', L')) : scriptF dn L acc (s :: r) = scriptF dn' L' (acc ++ [⟨T, is, 0, [], P⟩]) r := by
  rw [scriptF, h]
end Go.Proofs.Ytoimkmoalmmooaa.Own
namespace Go.Proofs.Ytoimkmoalmmooaa.Base
open Go.RowKit Go.Proofs.Ytoimkmoalmmooaa.QA Go.Proofs.YtoimkmoalmmooaaW.PrintWords Go.Proofs.YtoimkmoalmmooaaW.PrintLast
theorem word_from (s : ByteArray) (hs : s.size ≤ 140737488351232) (d : Nat) : ∀ i : Nat, i + d = s.size → Ev (fun k => laws_word.l0 k s (s.size : Int) (i : Int)) (((ns s).drop i).all wB && !(ns s).isEmpty) := by
  induction d with
  | zero =>
    intro i hi
    refine Ev.step (f := fun _ => some (s.toList != ([] : List UInt8))) (fun k => ?_) (Ev.val ?_)
    · simp only [laws_word.l0]; rw [if_neg (by omega)]
    · rw [List.drop_eq_nil_of_le (by rw [ns_length]; omega), toList_ne_nil]; rfl
  | succ d ih =>
    intro i hi
    have hlt : i < (ns s).length := by rw [ns_length]; omega
    have hr := ns_range s ((ns s)[i]) (List.getElem_mem hlt)
    have hb : bt s (i : Int) = (ns s)[i] := by rw [bt_ns, List.getD_eq_getElem?_getD, List.getElem?_eq_getElem hlt]; rfl
    refine Ev.step (f := fun k => if wB (ns s)[i] = true then laws_word.l0 k s (s.size : Int) ((i + 1 : Nat) : Int) else some false) (fun k => ?_) ?_
    · simp only [laws_word.l0]
      rw [if_pos (by omega), if_pos (by omega), if_pos (by omega), hb, word_round _ hr.1 hr.2, wrap_add (by omega) (by omega)]
      rfl
    · rw [List.drop_eq_getElem_cons hlt, List.all_cons]
      refine Ev.ite (fun h => ?_) (fun h => Ev.val ?_)
      · rw [h, Bool.true_and]
        exact ih (i + 1) (by omega)
      · simp only [Bool.not_eq_true] at h
        rw [h]; rfl
theorem word_ends (s : ByteArray) (hs : s.size ≤ 140737488351232) : Ev (fun k => laws_word.f k s) (isWord s) := word_from s hs s.size 0 (by omega)
end Go.Proofs.Ytoimkmoalmmooaa.Base
namespace Go.Proofs.Ytoimkmoalmmooaa.Base
open Go.RowKit Go.Proofs.Ytoimkmoalmmooaa.QA Go.Proofs.YtoimkmoalmmooaaW.PrintWords Go.Proofs.YtoimkmoalmmooaaW.PrintLast
def nB (x : Int) : Bool := decide (x = 45) || wB x
def isName (s : ByteArray) : Bool := decide (2 ≤ s.size) && decide (Go.bits .or .u8 (bt s 0) 32 = 120) && decide (s.size ≤ 60) && (ns s).all nB
theorem ns_one (s : ByteArray) (i : Nat) (h : i < s.size) : isWord (s.extract i (i + 1)) = wB (bt s (i : Int)) := by
  have hlt : i < (ns s).length := by rw [ns_length]; exact h
  have e : ns (s.extract i (i + 1)) = [(ns s)[i]] := by
    rw [ns_extract, List.drop_eq_getElem_cons hlt]
    have : i + 1 - i = 1 := by omega
    rw [this]; rfl
  unfold isWord
  rw [e, bt_ns, List.getD_eq_getElem?_getD, List.getElem?_eq_getElem hlt]
  simp
theorem name_from (s : ByteArray) (hs : s.size ≤ 140737488351232) (d : Nat) : ∀ i : Nat, i + d = s.size → Ev (fun k => laws_name.l0 k s (s.size : Int) (i : Int)) (((ns s).drop i).all nB) := by
  induction d with
  | zero =>
    intro i hi
    refine Ev.step (f := fun _ => some true) (fun k => ?_) (Ev.val ?_)
    · simp only [laws_name.l0]; rw [if_neg (by omega)]
    · rw [List.drop_eq_nil_of_le (by rw [ns_length]; omega)]; rfl
  | succ d ih =>
    intro i hi
    have hlt : i < (ns s).length := by rw [ns_length]; omega
    have hb : bt s (i : Int) = (ns s)[i] := by rw [bt_ns, List.getD_eq_getElem?_getD, List.getElem?_eq_getElem hlt]; rfl
    have hone := ns_one s i (by omega)
    have hsz : (s.extract i (i + 1)).size ≤ 140737488351232 := by rw [← ns_length, ns_extract]; simp; omega
    refine Ev.step (f := fun k => if bt s (i : Int) = 45 then laws_name.l0 k s (s.size : Int) ((i + 1 : Nat) : Int) else (laws_word.f k (s.extract i (i + 1))).bind fun t => if t = true then laws_name.l0 k s (s.size : Int) ((i + 1 : Nat) : Int) else some false) (fun k => ?_) ?_
    · simp only [laws_name.l0]
      rw [wrap_add (by omega) (by omega), if_pos (by omega), if_pos (by omega), if_pos (by omega)]
      by_cases h45 : bt s (i : Int) = 45
      · rw [if_pos h45, if_pos h45]; rfl
      · have e1 : ((i : Int)).toNat = i := by omega
        have e2 : ((i : Int) + 1).toNat = i + 1 := by omega
        rw [if_neg h45, if_neg h45, if_pos (by omega), if_pos (by omega), e1, e2]; rfl
    · rw [List.drop_eq_getElem_cons hlt, List.all_cons, ← hb]
      refine Ev.ite (fun h => ?_) (fun h => Ev.bind (word_ends _ hsz) ?_)
      · have : nB (bt s (i : Int)) = true := by rw [h]; rfl
        rw [this, Bool.true_and]
        exact ih (i + 1) (by omega)
      · rw [hone]
        have hn : nB (bt s (i : Int)) = wB (bt s (i : Int)) := by unfold nB; rw [decide_eq_false h, Bool.false_or]
        rw [hn]
        refine Ev.ite (fun g => ?_) (fun g => Ev.val ?_)
        · rw [g, Bool.true_and]
          exact ih (i + 1) (by omega)
        · simp only [Bool.not_eq_true] at g
          rw [g]; rfl
theorem name_ends (s : ByteArray) (hs : s.size ≤ 140737488351232) : Ev (fun k => laws_name.f k s) (isName s) := by
  simp only [laws_name.f]
  have s1 : Ev (fun k => laws_name.j0 k s true) false := Ev.step (f := fun _ => some false) (fun k => rfl) (Ev.now _)
  unfold isName
  refine Ev.ite (fun h => ?_) (fun h => Ev.if_true (by omega) (Ev.ite (fun g => ?_) (fun g => ?_)))
  · rw [decide_eq_false (show ¬ 2 ≤ s.size by omega)]; exact s1
  · rw [decide_eq_true (show 2 ≤ s.size by omega), decide_eq_true g, Bool.true_and, Bool.true_and]
    by_cases h60 : (s.size : Int) > 60
    · rw [decide_eq_true h60, decide_eq_false (show ¬ s.size ≤ 60 by omega)]; exact s1
    · rw [decide_eq_false h60, decide_eq_true (show s.size ≤ 60 by omega), Bool.true_and]
      refine Ev.step (f := fun k => laws_name.l0 k s (s.size : Int) 0) (fun k => by simp only [laws_name.j0]; rw [if_neg (by simp)]) ?_
      exact name_from s hs s.size 0 (by omega)
  · rw [decide_eq_false g, Bool.and_false, Bool.false_and]; exact s1
theorem isName_mem {s : ByteArray} (h : isName s = true) : 2 ≤ s.size ∧ s.size ≤ 60 ∧ ∀ x ∈ ns s, nB x = true := by
  unfold isName at h
  simp only [Bool.and_eq_true, decide_eq_true_eq, List.all_eq_true] at h
  exact ⟨h.1.1.1, h.1.2, h.2⟩
end Go.Proofs.Ytoimkmoalmmooaa.Base
set_option linter.unusedVariables false
namespace Go.Proofs.Ytoimkmoalmmooaa.Base
open Go.RowKit Go.Proofs.Ytoimkmoalmmooaa.QA Go.Proofs.YtoimkmoalmmooaaW.PrintWords Go.Proofs.YtoimkmoalmmooaaW.PrintLast
theorem samePairs_self (a : List S34) (ha : a.length ≤ 4611686018427387904) : Ev (fun k => laws_samePairs.f k a a) true := by
  simp only [laws_samePairs.f]
  refine Ev.if_true trivial ?_
  have key : ∀ d i : Nat, i + d = a.length → Ev (fun k => laws_samePairs.l0 k a a (a.length : Int) (i : Int)) true := by
    intro d
    induction d with
    | zero => intro i hi; exact Ev.step (f := fun _ => some true) (fun k => by simp only [laws_samePairs.l0]; rw [if_neg (by omega)]) (Ev.now _)
    | succ d ih =>
      intro i hi
      refine Ev.step (f := fun k => laws_samePairs.l0 k a a (a.length : Int) ((i + 1 : Nat) : Int)) (fun k => ?_) (ih (i + 1) (by omega))
      simp only [laws_samePairs.l0]
      rw [if_pos (by omega), if_pos (by omega), if_pos (by omega), if_pos (by omega), if_neg (by simp), wrap_add (by omega) (by omega)]
      rfl
  exact key a.length 0 (by omega)
end Go.Proofs.Ytoimkmoalmmooaa.Base
set_option linter.unusedVariables false
namespace Go.Proofs.Ytoimkmoalmmooaa.Pure
open Go.RowKit Go.Proofs.Ytoimkmoalmmooaa.QA Go.Proofs.YtoimkmoalmmooaaW.PrintWords Go.Proofs.YtoimkmoalmmooaaW.PrintLast Go.Proofs.YtoimkmoalmmooaaW.PrintMore Go.Proofs.Ytoimkmoalmmooaa.Base Go.Proofs.Ytoimkmoalmmooaa.Given Go.Proofs.Ytoimkmoalmmooaa.Gv Go.Proofs.Ytoimkmoalmmooaa.Own
theorem name_x {s : ByteArray} (h : isName s = true) : 2 ≤ s.size ∧ s.size ≤ 60 ∧ (∀ x ∈ ns s, x ≠ 44 ∧ x ≠ 32) ∧ ((ns s).map o32).headD 0 = 120 := by
  have hm := isName_mem h
  refine ⟨hm.1, hm.2.1, fun x hx => ?_, ?_⟩
  · have := hm.2.2 x hx
    unfold nB at this
    simp only [Bool.or_eq_true, decide_eq_true_eq] at this
    rcases this with rfl | hw
    · decide
    · exact ⟨(wB_ne hw).2.2.1, (wB_ne hw).1⟩
  · unfold isName at h
    simp only [Bool.and_eq_true, decide_eq_true_eq] at h
    rw [← h.1.1.2, show bt s 0 = (ns s).getD 0 0 from bt_ns s 0]
    cases hn : ns s with
    | nil => have := ns_length s; rw [hn] at this; simp at this; omega
    | cons a t => rfl
theorem low_is (s : ByteArray) (h : s.size ≤ 4611686018427387904) : laws_low.f s = some (strOfNums ((ns s).map lo)) := if_pos h
theorem normal_is (s : ByteArray) (h : s.size ≤ 4611686018427387904) : laws_normal.f s = some (strOfNums (nk (ns s))) := if_pos h
theorem lo_row (s : ByteArray) : ∀ x ∈ (ns s).map lo, 0 ≤ x ∧ x ≤ 255 := fun x hx => by
  obtain ⟨y, hy, rfl⟩ := List.mem_map.1 hx
  exact lo_range (ns_range s y hy)
theorem nk_row (s : ByteArray) : ∀ x ∈ nk (ns s), 0 ≤ x ∧ x ≤ 255 := nk_range (ns s) (fun x h => ns_range s x h)
theorem self_str (s : ByteArray) : strOfNums (ns s) = s := ns_inj (ns_strOfNums (fun x hx => ns_range s x hx))
theorem lo_up (x : Int) : lo (Gv.up x) = lo x := by
  unfold Gv.up lo
  (repeat' split) <;> omega
theorem nkTail_map_lo : ∀ l : List Int, (nkTail l).map lo = l.map lo
  | [] => rfl
  | [x] => by
    unfold nkTail
    split
    · rename_i h; subst h; rfl
    · simp [lo_lo]
  | x :: y :: l => by
    unfold nkTail
    split
    · rename_i h; subst h; simp [lo_up, nkTail_map_lo l]
    · have := nkTail_map_lo (y :: l)
      simp only [List.map_cons] at this
      simp only [List.map_cons, this, lo_lo]
theorem nk_map_lo (l : List Int) : (nk l).map lo = l.map lo := by
  cases l <;> simp [nk, nkTail_map_lo, lo_up]
theorem script_is {l : List Step} {r : List Ans × ByteArray × Bool} (hl : l.length ≤ 1000000000) (h : scriptF false [] [] l = some r) : impl_TrailerScript.f l = some r := by
  unfold impl_TrailerScript.f
  rw [if_pos hl]; exact h
def forbL : List (List Int) := [[99, 111, 110, 116, 101, 110, 116, 45, 108, 101, 110, 103, 116, 104], [116, 114, 97, 110, 115, 102, 101, 114, 45, 101, 110, 99, 111, 100, 105, 110, 103], [104, 111, 115, 116], [116, 114, 97, 105, 108, 101, 114], [99, 111, 110, 116, 101, 110, 116, 45, 116, 121, 112, 101], [99, 111, 110, 116, 101, 110, 116, 45, 101, 110, 99, 111, 100, 105, 110, 103], [99, 111, 110, 116, 101, 110, 116, 45, 114, 97, 110, 103, 101], [97, 117, 116, 104, 111, 114, 105, 122, 97, 116, 105, 111, 110]]
def forbOf (s : ByteArray) : Bool := forbL.any fun c => decide ((ns s).map lo = c)
theorem lit_is (t : ByteArray) (c : List UInt8) : t.toList = c ↔ ns t = c.map fun x => (x.toNat : Int) := by
  have hf : ∀ x y : UInt8, (x.toNat : Int) = (y.toNat : Int) → x = y := fun x y e => UInt8.toNat_inj.1 (by omega)
  rw [Lib.toList_data]
  exact ⟨fun e => by rw [← e]; rfl, fun e => (List.map_inj_right hf).1 e⟩
theorem or_step {t : ByteArray} {c : List UInt8} {m d : List Int} {X : Option Bool} {b : Bool} (e : ns t = m) (hc : (c.map fun x => (x.toNat : Int)) = d) (h : X = some b) : (if t.toList = c then some true else X) = some (decide (m = d) || b) := by
  by_cases hk : t.toList = c
  · rw [if_pos hk, decide_eq_true (by rw [← e, ← hc]; exact (lit_is t c).1 hk)]; rfl
  · rw [if_neg hk, decide_eq_false (fun g => hk ((lit_is t c).2 (by rw [e, g, hc]))), h]; rfl
theorem forb_is (s : ByteArray) (h : s.size ≤ 4611686018427387904) : laws_forbidden.f s = some (forbOf s) := by
  unfold laws_forbidden.f
  rw [low_is s h, Option.bind_some]
  have e := ns_strOfNums (lo_row s)
  exact or_step e (by decide) (or_step e (by decide) (or_step e (by decide) (or_step e (by decide) (or_step e (by decide) (or_step e (by decide) (or_step e (by decide) (or_step e (by decide) rfl)))))))
theorem forb_bad (s : ByteArray) (h : forbOf s = true) : badM ((ns s).map o32) = true := by
  unfold forbOf at h
  obtain ⟨c, hc, e⟩ := List.any_eq_true.1 h
  rw [← map_o32_lo (ns s) (fun x hx => ns_range s x hx), of_decide_eq_true e]
  have k : ∀ c ∈ forbL, badM (c.map o32) = true := by decide +kernel
  exact k c hc
theorem name_good (s : ByteArray) (h : isName s = true) : badM ((ns s).map o32) = false := by
  have h0 := (isName_mem h).1
  refine bad_x _ ?_
  unfold isName at h
  simp only [Bool.and_eq_true, decide_eq_true_eq] at h
  rw [← h.1.1.2, show bt s 0 = (ns s).getD 0 0 from bt_ns s 0]
  cases hn : ns s with
  | nil => have := ns_length s; rw [hn] at this; simp at this; omega
  | cons a t => rfl
theorem bad_is (s : ByteArray) (h : isName s = true ∨ forbOf s = true) : badM ((ns s).map o32) = forbOf s := by
  cases hf : forbOf s
  · rcases h with h | h
    · exact name_good s h
    · rw [h] at hf; cases hf
  · exact forb_bad s hf
theorem nk_map_o32 (s : ByteArray) : (nk (ns s)).map o32 = (ns s).map o32 := by
  rw [← map_o32_lo (nk (ns s)) (nk_row s), nk_map_lo, map_o32_lo (ns s) (fun x hx => ns_range s x hx)]
theorem badK_is (dn : Bool) (s : ByteArray) (h : isName s = true ∨ forbOf s = true) : badK (nkd dn (ns s)) = forbOf s := by
  unfold badK
  have : (nkd dn (ns s)).map o32 = (ns s).map o32 := by
    cases dn with
    | true => rfl
    | false => exact nk_map_o32 s
  rw [this]
  exact bad_is s h
end Go.Proofs.Ytoimkmoalmmooaa.Pure
set_option linter.unusedVariables false
namespace Go.Proofs.Ytoimkmoalmmooaa.Base
open Go.RowKit Go.Proofs.Ytoimkmoalmmooaa.QA Go.Proofs.YtoimkmoalmmooaaW.PrintWords Go.Proofs.YtoimkmoalmmooaaW.PrintLast
def joinN (sep : List Int) : List (List Int) → List Int
  | [] => []
  | x :: l => x ++ l.flatMap fun y => sep ++ y
end Go.Proofs.Ytoimkmoalmmooaa.Base
set_option linter.unusedVariables false
namespace Go.Proofs.Ytoimkmoalmmooaa.Base
open Go.RowKit Go.Proofs.Ytoimkmoalmmooaa.QA Go.Proofs.YtoimkmoalmmooaaW.PrintWords Go.Proofs.YtoimkmoalmmooaaW.PrintLast
theorem joined_fromC (sep : ByteArray) (l : List ByteArray) (C : Nat) (hC : C ≤ 4611686018427387904) (hl : l.length ≤ 4294967296 - 2) (hs : ∀ s ∈ l, s.size + sep.size ≤ C) (hmul : l.length * C ≤ 4611686018427387904) (d : Nat) :
    ∀ (i : Nat) (acc : ByteArray), 1 ≤ i → i + d = l.length → acc.size ≤ i * C → ∃ r : ByteArray, Ev (fun k => laws_joined.l0 k sep acc l (l.length : Int) (i : Int)) r ∧ ns r = ns acc ++ (l.drop i).flatMap fun y => ns sep ++ ns y := by
  induction d with
  | zero =>
    intro i acc h1 hi hacc
    refine ⟨acc, Ev.step (f := fun _ => some acc) (fun k => ?_) (Ev.now _), ?_⟩
    · simp only [laws_joined.l0]; rw [if_neg (by omega)]
    · rw [List.drop_eq_nil_of_le (by omega)]; simp
  | succ d ih =>
    intro i acc h1 hi hacc
    have hlt : i < l.length := by omega
    have hsi := hs _ (List.getElem_mem hlt)
    have hm : (i + 1) * C ≤ l.length * C := Nat.mul_le_mul_right _ (by omega)
    have hm2 : (i + 1) * C = i * C + C := by rw [Nat.add_mul, Nat.one_mul]
    have z1 : (acc ++ sep).size = acc.size + sep.size := ByteArray.size_append
    have z2 : ((acc ++ sep) ++ l[i]).size = acc.size + sep.size + (l[i]).size := by rw [ByteArray.size_append, z1]
    obtain ⟨r, hr, hn⟩ := ih (i + 1) ((acc ++ sep) ++ l[i]) (by omega) (by omega) (by rw [z2]; omega)
    refine ⟨r, Ev.step (f := fun k => laws_joined.l0 k sep ((acc ++ sep) ++ l[i]) l (l.length : Int) ((i + 1 : Nat) : Int)) (fun k => ?_) hr, ?_⟩
    · simp only [laws_joined.l0]
      rw [if_pos (by omega), if_pos (by omega), if_pos (by omega), if_pos (by omega), rdOf_nat _ _ _ hlt, wrap_add (by omega) (by omega), if_pos (by omega), if_pos (by omega)]
      rfl
    · rw [hn, List.drop_eq_getElem_cons hlt, List.flatMap_cons, ns_append, ns_append]
      simp only [List.append_assoc]
theorem joined_endsC (sep : ByteArray) (l : List ByteArray) (C : Nat) (hC : C ≤ 4611686018427387904) (hl : l.length ≤ 4294967296 - 2) (hs : ∀ s ∈ l, s.size + sep.size ≤ C) (hmul : l.length * C ≤ 4611686018427387904) :
    ∃ r : ByteArray, Ev (fun k => laws_joined.f k l sep) r ∧ ns r = joinN (ns sep) (l.map ns) := by
  simp only [laws_joined.f]
  cases l with
  | nil =>
    refine ⟨⟨#[]⟩, Ev.step (f := fun _ => some (⟨#[]⟩ : ByteArray)) (fun k => ?_) (Ev.now _), rfl⟩
    simp only [laws_joined.l0]; rw [if_neg (by simp)]
  | cons x l =>
    have hx := hs x (by simp)
    obtain ⟨r, hr, hn⟩ := joined_fromC sep (x :: l) C hC hl hs hmul l.length 1 x (by omega) (by simp; omega) (by omega)
    have hemp : (⟨#[]⟩ : ByteArray) ++ x = x := ns_inj (by rw [ns_append]; rfl)
    have hz : (⟨#[]⟩ : ByteArray).size = 0 := rfl
    refine ⟨r, Ev.step (f := fun k => laws_joined.l0 k sep x (x :: l) ((x :: l).length : Int) 1) (fun k => ?_) hr, ?_⟩
    · have hr0 : rdOf ByteArray.empty (x :: l) 0 = x := rfl
      have hw : wrap64 (0 + 1) = 1 := by unfold wrap64; decide
      have hl0 : (0 : Int) < ((x :: l).length : Int) := by rw [List.length_cons]; omega
      simp only [laws_joined.l0]
      rw [if_pos hl0, if_pos (by omega), if_pos hl0, if_neg (by omega), hr0, hw, hemp, if_pos (by omega)]
    · rw [hn]
      simp only [List.drop_one, List.tail_cons, List.map_cons, joinN, List.flatMap_map]
end Go.Proofs.Ytoimkmoalmmooaa.Base
namespace Go.Proofs.Ytoimkmoalmmooaa.Base
open Go.RowKit Go.Proofs.Ytoimkmoalmmooaa.QA Go.Proofs.YtoimkmoalmmooaaW.PrintWords Go.Proofs.YtoimkmoalmmooaaW.PrintLast
def fits6 (l : List ByteArray) : Bool := decide (l.length ≤ 2147483647) && l.all fun s => decide (s.size ≤ 2147483647)
theorem fits6_from (l : List ByteArray) (hl : l.length ≤ 2147483647) (d : Nat) : ∀ i : Nat, i + d = l.length → Ev (fun k => laws_zzFits6.l0 k l (l.length : Int) (i : Int)) ((l.drop i).all fun s => decide (s.size ≤ 2147483647)) := by
  induction d with
  | zero =>
    intro i hi
    refine Ev.step (f := fun _ => some true) (fun k => ?_) (Ev.val ?_)
    · simp only [laws_zzFits6.l0]; rw [if_neg (by omega)]
    · rw [List.drop_eq_nil_of_le (by omega)]; rfl
  | succ d ih =>
    intro i hi
    have hlt : i < l.length := by omega
    refine Ev.step (f := fun k => if ((l[i]).size : Int) > 2147483647 then some false else laws_zzFits6.l0 k l (l.length : Int) ((i + 1 : Nat) : Int)) (fun k => ?_) ?_
    · simp only [laws_zzFits6.l0]
      rw [if_pos (by omega), if_pos (by omega), if_pos (by omega), rdOf_nat _ _ _ hlt, wrap_add (by omega) (by omega)]
      rfl
    · rw [List.drop_eq_getElem_cons hlt, List.all_cons]
      refine Ev.ite (fun g => Ev.val ?_) (fun g => ?_)
      · rw [decide_eq_false (by omega)]; simp
      · rw [decide_eq_true (by omega), Bool.true_and]
        exact ih (i + 1) (by omega)
theorem fits6_ends (l : List ByteArray) : Ev (fun k => laws_zzFits6.f k l) (fits6 l) := by
  simp only [laws_zzFits6.f]
  unfold fits6
  refine Ev.ite (fun h => Ev.val ?_) (fun h => ?_)
  · rw [decide_eq_false (by omega)]; rfl
  · rw [decide_eq_true (by omega), Bool.true_and]
    exact fits6_from l (by omega) l.length 0 (by omega)
theorem fits6_mem {l : List ByteArray} (h : fits6 l = true) : l.length ≤ 2147483647 ∧ ∀ s ∈ l, s.size ≤ 2147483647 := by
  unfold fits6 at h
  simp only [Bool.and_eq_true, decide_eq_true_eq, List.all_eq_true] at h
  exact h
end Go.Proofs.Ytoimkmoalmmooaa.Base
set_option linter.unusedVariables false
namespace Go.Proofs.Ytoimkmoalmmooaa.Pure
open Go.RowKit Go.Proofs.Ytoimkmoalmmooaa.QA Go.Proofs.YtoimkmoalmmooaaW.PrintWords Go.Proofs.YtoimkmoalmmooaaW.PrintLast Go.Proofs.YtoimkmoalmmooaaW.PrintMore Go.Proofs.Ytoimkmoalmmooaa.Base Go.Proofs.Ytoimkmoalmmooaa.Given Go.Proofs.Ytoimkmoalmmooaa.Gv Go.Proofs.Ytoimkmoalmmooaa.Own
theorem joinN_joinC : ∀ l : List (List Int), joinN [44, 32] l = joinC l
  | [] => rfl
  | [x] => by simp [joinN, joinC]
  | x :: y :: t => by
    have := joinN_joinC (y :: t)
    simp only [joinN, joinC, List.flatMap_cons, List.append_assoc, List.cons_append, List.nil_append] at this ⊢
    rw [this]
def okKey (K : List Int) : Prop := K ≠ [] ∧ ∀ x ∈ K, x ≠ 44 ∧ x ≠ 32
theorem idx_at (c : Int) : ∀ (K rest : List Int), (∀ x ∈ K, x ≠ c) → idx (K ++ c :: rest) c = K.length
  | [], rest, _ => by simp [idx]
  | x :: l, rest, h => by
    have e := idx_at c l rest (fun y hy => h y (List.mem_cons_of_mem _ hy))
    rw [List.cons_append, idx, if_neg (h x (by simp)), e]
    rw [if_neg (by omega)]
    simp
theorem cutI_at {K rest : List Int} (h : ∀ x ∈ K, x ≠ 44) : cutI (K ++ 44 :: rest) = K.length := by
  rw [cutI, idx_at 44 K rest h, if_neg (by omega)]; simp
theorem keyT_from (dn : Bool) {p K rest : List Int} (hp : p = [] ∨ p = [32]) (hK : okKey K) (hr : rest = [] ∨ ∃ r, rest = 44 :: r) : keyT dn (p ++ K ++ rest) = nkd dn K ∧ cutI (p ++ K ++ rest) = (p ++ K).length := by
  have hno : ∀ x ∈ p ++ K, x ≠ 44 := by
    intro x hx
    rcases List.mem_append.1 hx with h | h
    · rcases hp with rfl | rfl
      · simp at h
      · simp at h; omega
    · exact (hK.2 x h).1
  have hc : cutI (p ++ K ++ rest) = (p ++ K).length := by
    rcases hr with rfl | ⟨r, rfl⟩
    · rw [List.append_nil]; exact cutI_none hno
    · exact cutI_at hno
  refine ⟨?_, hc⟩
  have ht : (p ++ K ++ rest).take (p ++ K).length = p ++ K := by
    rw [List.take_append_of_le_length (Nat.le_refl _), List.take_length]
  unfold keyT
  rw [hc, ht]
  have hl : trimL (p ++ K) = K := by
    rcases hp with rfl | rfl
    · exact trimL_none (fun x hx => (hK.2 x hx).2)
    · show trimL (32 :: K) = K
      rw [trimL_sp]; exact trimL_none (fun x hx => (hK.2 x hx).2)
  rw [hl, trimR_none (fun x hx => (hK.2 x hx).2)]
def keepN (Ks : List (List Int)) : List KVx := (Ks.filter fun K => !badK (nk K)).map fun K => ⟨nk K, [], true⟩
theorem setGo_join : ∀ (Ks : List (List Int)) (p : List Int) (f : Nat) (acc : List KVx) (b : Bool), (p = [] ∨ p = [32]) → (∀ K ∈ Ks, okKey K) → (p = [] → Ks ≠ []) → (hn : Ks ≠ []) → Ks.length ≤ f →
    setGo false f (p ++ joinC Ks) acc b = some (acc ++ keepN Ks, badK (nk (Ks.getLast hn)))
  | [], _, _, _, _, _, _, _, hn, _ => absurd rfl hn
  | K :: t, p, 0, _, _, _, _, _, _, hf => by simp at hf
  | K :: t, p, f + 1, acc, b, hp, hok, _, hn, hf => by
    have hK := hok K (by simp)
    have hsplit : p ++ joinC (K :: t) = p ++ K ++ (if t = [] then [] else 44 :: 32 :: joinC t) := by
      cases t with
      | nil => simp [joinC]
      | cons a t => simp [joinC]
    obtain ⟨hk, hc⟩ := keyT_from false (p := p) (K := K) (rest := if t = [] then [] else 44 :: 32 :: joinC t) hp hK (by
      by_cases h : t = []
      · left; rw [if_pos h]
      · right; exact ⟨_, if_neg h⟩)
    have hne : p ++ joinC (K :: t) ≠ [] := by
      rw [hsplit]
      intro e
      rw [List.append_assoc] at e
      exact hK.1 (List.append_eq_nil_iff.1 (List.append_eq_nil_iff.1 e).2).1
    obtain ⟨y, ys, hy⟩ : ∃ y ys, p ++ joinC (K :: t) = y :: ys := by
      cases h : p ++ joinC (K :: t) with
      | nil => exact absurd h hne
      | cons y ys => exact ⟨y, ys, rfl⟩
    have hy2 : p ++ K ++ (if t = [] then [] else 44 :: 32 :: joinC t) = y :: ys := by rw [← hsplit, hy]
    rw [hy2] at hk hc
    have hkn : ¬ nkd false K = [] := by
      intro e
      have := congrArg List.length e
      rw [nkd_length] at this
      exact hK.1 (List.length_eq_zero_iff.1 this)
    rw [hy, setGo, hk, if_neg hkn, hc, ← hy2]
    have hkeep : keepN (K :: t) = (if badK (nk K) = true then [] else [⟨nk K, [], true⟩]) ++ keepN t := by
      unfold keepN
      rw [List.filter_cons]
      cases h : badK (nk K) <;> simp
    have hnk : nkd false K = nk K := rfl
    rw [hnk]
    have hacc : (if badK (nk K) = true then acc else acc ++ [(⟨nk K, [], true⟩ : KVx)]) ++ keepN t = acc ++ keepN (K :: t) := by
      rw [hkeep]
      cases h : badK (nk K) <;> simp
    cases t with
    | nil =>
      rw [if_pos rfl, List.append_nil, List.drop_eq_nil_of_le (by omega)]
      have hnil : keepN [] = [] := rfl
      rw [hnil, List.append_nil] at hacc
      cases f with
      | zero => rw [setGo, hacc]; rfl
      | succ f => rw [setGo, hacc]; rfl
    | cons a t =>
      rw [if_neg (by simp)]
      have hd : (p ++ K ++ 44 :: 32 :: joinC (a :: t)).drop ((p ++ K).length + 1) = [32] ++ joinC (a :: t) := by
        rw [show (p ++ K ++ 44 :: 32 :: joinC (a :: t)) = (p ++ K ++ [44]) ++ (32 :: joinC (a :: t)) from by simp]
        rw [show (p ++ K).length + 1 = (p ++ K ++ [44]).length from by simp; omega, List.drop_left]
        rfl
      rw [hd, setGo_join (a :: t) [32] f _ _ (.inr rfl) (fun K' h' => hok K' (List.mem_cons_of_mem _ h')) (by simp) (by simp) (by simp at hf ⊢; omega), hacc]
      rfl
theorem name_key {s : ByteArray} (h : isName s = true ∨ forbOf s = true) : okKey (ns s) ∧ s.size ≤ 60 := by
  rcases h with h | h
  · obtain ⟨h1, h2, h3, _⟩ := name_x h
    exact ⟨⟨fun e => by have := ns_length s; rw [e] at this; simp at this; omega, h3⟩, h2⟩
  · unfold forbOf at h
    obtain ⟨c, hc, e⟩ := List.any_eq_true.1 h
    have e := of_decide_eq_true e
    have k : ∀ c ∈ forbL, c.length ≤ 60 ∧ c ≠ [] ∧ ∀ x ∈ c, x ≠ 44 ∧ x ≠ 32 := by decide +kernel
    obtain ⟨k1, k2, k3⟩ := k c hc
    have hl : (ns s).length = c.length := by rw [← e, List.length_map]
    refine ⟨⟨fun e' => ?_, fun x hx => ?_⟩, by rw [← ns_length, hl]; exact k1⟩
    · rw [e'] at hl
      exact k2 (List.length_eq_zero_iff.1 hl.symm)
    · have hm : lo x ∈ c := by rw [← e]; exact List.mem_map.2 ⟨x, hx, rfl⟩
      have := k3 _ hm
      unfold lo at this
      split at this <;> omega
theorem x_script : ∃ T, scriptF false [] [] [⟨4, ⟨#[]⟩, ⟨#[88, 45, 65]⟩, 0, 0⟩, ⟨7, ⟨#[]⟩, ⟨#[]⟩, 0, 0⟩] = some ([⟨⟨#[]⟩, true, 0, [], []⟩, ⟨⟨#[]⟩, false, 0, [], [⟨⟨#[88, 45, 65]⟩, ⟨#[]⟩⟩]⟩], T, true) := by
  have hk : ns (⟨#[88, 45, 65]⟩ : ByteArray) = [88, 45, 65] := by decide
  have hn : nk [88, 45, 65] = [88, 45, 65] := by decide
  have hz : (⟨#[]⟩ : ByteArray).size = 0 := rfl
  have e1 : stepF false [] ⟨4, ⟨#[]⟩, ⟨#[88, 45, 65]⟩, 0, 0⟩ = some ((⟨#[]⟩, true, []), false, [⟨[88, 45, 65], [], true⟩]) := by
    rw [stepF_4 _ _ _ rfl (by simp) (by decide) (by decide)]
    show (setGo false 3 (ns _) [] false).map _ = _
    rw [hk, setGo_one false 2 (by decide) (by decide), badK_x (nkd_x false (by decide) (by decide))]
    show some (_, _, _) = _
    rw [show nkd false [88, 45, 65] = [88, 45, 65] from hn]; rfl
  have e2 : stepF false [⟨[88, 45, 65], [], true⟩] ⟨7, ⟨#[]⟩, ⟨#[]⟩, 0, 0⟩ = some ((⟨#[]⟩, false, [⟨⟨#[88, 45, 65]⟩, ⟨#[]⟩⟩]), false, [⟨[88, 45, 65], [], true⟩]) := by
    rw [stepF_7 _ _ _ rfl (by simp) (by simp [hz]) (by simp [hz])]
    rfl
  rw [script_cons e1, script_cons e2, scriptF, if_pos ⟨by simp, by decide, by decide⟩]
  exact ⟨_, rfl⟩
theorem stepF_5 (dn : Bool) (L : List KVx) (s : Step) (hd : s.f0 = 5) (hL : L.length ≤ 1000000) (h1 : s.f1.size ≤ 1000000) (h2 : s.f2.size ≤ 1000000) (hs : sizeKV L ≤ 140737488355328) : stepF dn L s = some ((strOfNums (joinC (L.map KVx.k)), false, []), dn, L) := by
  unfold stepF
  rw [if_neg (by omega), if_neg (by omega), if_neg (by omega), if_neg (by omega), if_neg (by omega), if_pos hd, if_pos hs]
theorem stepF_8 (dn : Bool) (L : List KVx) (s : Step) (hd : s.f0 = 8) (hL : L.length ≤ 1000000) (h1 : s.f1.size ≤ 1000000) (h2 : s.f2.size ≤ 1000000) : stepF dn L s = some ((⟨#[]⟩, decide (L.length = 0), []), dn, L) := by
  unfold stepF
  rw [if_neg (by omega), if_neg (by omega), if_neg (by omega), if_neg (by omega), if_neg (by omega), if_neg (by omega), if_neg (by omega), if_neg (by omega), if_pos hd]
def wantN (l : List ByteArray) : List Pair := (l.filter fun s => !forbOf s).map fun s => ⟨strOfNums (nk (ns s)), ⟨#[]⟩⟩
theorem keep_filter : ∀ (l : List ByteArray), (∀ s ∈ l, isName s = true ∨ forbOf s = true) → keepN (l.map ns) = (l.filter fun s => !forbOf s).map fun s => ⟨nk (ns s), [], true⟩
  | [], _ => rfl
  | s :: t, h => by
    have ih := keep_filter t (fun x hx => h x (List.mem_cons_of_mem _ hx))
    have hb : badK (nk (ns s)) = forbOf s := badK_is false s (h s (by simp))
    unfold keepN at ih ⊢
    rw [List.map_cons, List.filter_cons, List.filter_cons, hb]
    cases forbOf s <;> simp [ih]
theorem names_script (l : List ByteArray) (J : ByteArray) (hne : l ≠ []) (hl : l.length ≤ 12) (h : ∀ s ∈ l, isName s = true ∨ forbOf s = true) (hJ : ns J = joinC (l.map ns)) (hJs : J.size ≤ 1000000) :
    ∃ T, scriptF false [] [] [⟨4, ⟨#[]⟩, J, 0, 0⟩, ⟨7, ⟨#[]⟩, ⟨#[]⟩, 0, 0⟩, ⟨5, ⟨#[]⟩, ⟨#[]⟩, 0, 0⟩, ⟨8, ⟨#[]⟩, ⟨#[]⟩, 0, 0⟩] =
      some ([⟨⟨#[]⟩, !forbOf (l.getLast hne), 0, [], []⟩, ⟨⟨#[]⟩, false, 0, [], wantN l⟩, ⟨strOfNums (joinC ((wantN l).map fun p => ns p.f0)), false, 0, [], []⟩, ⟨⟨#[]⟩, decide ((wantN l).length = 0), 0, [], []⟩], T, true) := by
  have hz : (⟨#[]⟩ : ByteArray).size = 0 := rfl
  have hlen : l.length ≤ J.size := by
    rw [← ns_length, hJ]
    have : ∀ Ks : List (List Int), (∀ K ∈ Ks, K ≠ []) → Ks.length ≤ (joinC Ks).length := by
      intro Ks
      induction Ks with
      | nil => intro _; simp
      | cons K t ih =>
        intro hk
        have h1 : 0 < K.length := List.length_pos_iff.2 (hk K (by simp))
        have h2 := ih (fun x hx => hk x (List.mem_cons_of_mem _ hx))
        rw [joinC_cons]
        simp only [List.length_append, List.length_cons]
        omega
    have := this (l.map ns) (fun K hK => by
      obtain ⟨s, hs, rfl⟩ := List.mem_map.1 hK
      exact (name_key (h s hs)).1.1)
    rwa [List.length_map] at this
  have hm : l.map ns ≠ [] := by simpa using hne
  have hgo := setGo_join (l.map ns) [] J.size [] false (.inl rfl) (fun K hK => by
      obtain ⟨s, hs, rfl⟩ := List.mem_map.1 hK
      exact (name_key (h s hs)).1) (fun _ => hm) hm (by rw [List.length_map]; exact hlen)
  rw [List.nil_append, List.nil_append, ← hJ, List.getLast_map, keep_filter l h] at hgo
  have hlast := h (l.getLast hne) (List.getLast_mem hne)
  have hb : badK (nk (ns (l.getLast hne))) = forbOf (l.getLast hne) := badK_is false _ hlast
  rw [hb] at hgo
  obtain ⟨F, hF⟩ : ∃ F, (l.filter fun s => !forbOf s) = F := ⟨_, rfl⟩
  have hFl : F.length ≤ 12 := by
    rw [← hF]
    exact Nat.le_trans (List.length_filter_le _ _) hl
  have hFm : ∀ s ∈ F, s.size ≤ 60 := fun s hs => by
    rw [← hF] at hs
    exact (name_key (h s (List.mem_filter.1 hs).1)).2
  rw [hF] at hgo
  obtain ⟨L, hL⟩ : ∃ L, (F.map fun s => (⟨nk (ns s), [], true⟩ : KVx)) = L := ⟨_, rfl⟩
  rw [hL] at hgo
  have hLl : L.length = F.length := by rw [← hL, List.length_map]
  have hP : L.map toP = wantN l := by
    rw [← hL]; unfold wantN
    rw [hF, List.map_map]
    refine List.map_congr_left (fun s _ => ?_)
    rfl
  have hk : L.map KVx.k = (wantN l).map fun p => ns p.f0 := by
    rw [← hL]; unfold wantN
    rw [hF, List.map_map, List.map_map]
    refine List.map_congr_left (fun s _ => ?_)
    exact (ns_strOfNums (nk_row s)).symm
  have hsz : sizeKV L ≤ 1000 := by
    rw [← hL]
    unfold sizeKV
    rw [List.map_map]
    have : ∀ G : List ByteArray, (∀ s ∈ G, s.size ≤ 60) → (G.map ((fun x : KVx => x.k.length + x.v.length + 4) ∘ fun s => ⟨nk (ns s), [], true⟩)).sum ≤ G.length * 64 := by
      intro G
      induction G with
      | nil => intro _; simp
      | cons s t ih =>
        intro hs
        have h1 := hs s (by simp)
        have h2 := ih (fun x hx => hs x (List.mem_cons_of_mem _ hx))
        simp only [List.map_cons, List.sum_cons, Function.comp_apply, List.length_cons, nk_length, ns_length, List.length_nil]
        omega
    have := this F hFm
    omega
  have e1 : stepF false [] ⟨4, ⟨#[]⟩, J, 0, 0⟩ = some ((⟨#[]⟩, !forbOf (l.getLast hne), []), false, L) := by
    rw [stepF_4 _ _ _ rfl (by simp) (by simp [hz]) hJs]
    show (setGo false J.size (ns J) [] false).map _ = _
    rw [hgo]; rfl
  have e2 : stepF false L ⟨7, ⟨#[]⟩, ⟨#[]⟩, 0, 0⟩ = some ((⟨#[]⟩, false, wantN l), false, L) := by
    rw [stepF_7 _ _ _ rfl (by omega) (by simp [hz]) (by simp [hz]), hP]
  have e3 : stepF false L ⟨5, ⟨#[]⟩, ⟨#[]⟩, 0, 0⟩ = some ((strOfNums (joinC ((wantN l).map fun p => ns p.f0)), false, []), false, L) := by
    rw [stepF_5 _ _ _ rfl (by omega) (by simp [hz]) (by simp [hz]) (by omega), hk]
  have e4 : stepF false L ⟨8, ⟨#[]⟩, ⟨#[]⟩, 0, 0⟩ = some ((⟨#[]⟩, decide ((wantN l).length = 0), []), false, L) := by
    rw [stepF_8 _ _ _ rfl (by omega) (by simp [hz]) (by simp [hz]), ← hP, List.length_map]
  have hr : RgK L := by
    intro x hx y hy
    rw [← hL] at hx
    obtain ⟨s, _, rfl⟩ := List.mem_map.1 hx
    exact nk_row s y hy
  rw [script_cons e1, script_cons e2, script_cons e3, script_cons e4, scriptF, if_pos ⟨by omega, hr, by omega⟩]
  exact ⟨_, rfl⟩
theorem wantN_snoc (l : List ByteArray) (s : ByteArray) : wantN (l ++ [s]) = wantN l ++ (if forbOf s = true then [] else [⟨strOfNums (nk (ns s)), ⟨#[]⟩⟩]) := by
  unfold wantN
  rw [List.filter_append, List.map_append]
  cases h : forbOf s <;> simp [h]
theorem take_snoc {α : Type} (l : List α) (i : Nat) (h : i < l.length) : l.take (i + 1) = l.take i ++ [l[i]] := by
  rw [List.take_succ_eq_append_getElem h]
theorem FnTrailerNames : laws_FnTrailerNames.Pure := by
  intro l hl0
  refine Ev.rounds ?_
  unfold laws_FnTrailerNames.f
  have s1t : Ev (fun k => laws_FnTrailerNames.j1 k l true) true := Ev.step (f := fun _ => some true) (fun k => rfl) (Ev.now _)
  have s3t : ∀ acc s A n i, Ev (fun k => laws_FnTrailerNames.j3 k l acc s A n i true) true := fun acc s A n i => Ev.step (f := fun _ => some true) (fun k => by simp only [laws_FnTrailerNames.j3]; rw [if_pos trivial]) (Ev.now _)
  refine Ev.bind (fits6_ends l) (Ev.ite (fun hfit => ?_) (fun _ => Ev.now _))
  obtain ⟨hfl, hfs⟩ := fits6_mem hfit
  obtain ⟨T1, x1⟩ := x_script
  refine Ev.call (script_is (by decide) x1) (Ev.if_true rfl (Ev.if_true rfl (Ev.if_true (by show (0 : Int) < ((2 : Nat) : Int); decide) (Ev.if_true rfl (Ev.if_true (by show (1 : Int) < ((2 : Nat) : Int); decide) (Ev.if_true rfl (Ev.if_true (by show (0 : Int) < ((1 : Nat) : Int); decide) ?_)))))))
  refine Ev.step (f := _) (fun k => by simp only [laws_FnTrailerNames.j0]; rw [if_neg (by decide +kernel)]) ?_
  refine Ev.ite (fun _ => s1t) (fun hne0 => ?_)
  by_cases h12 : (l.length : Int) > 12
  · rw [decide_eq_true h12]; exact s1t
  rw [decide_eq_false h12]
  have hne : l ≠ [] := fun e => by rw [e] at hne0; exact hne0 rfl
  refine Ev.step (f := _) (fun k => by simp only [laws_FnTrailerNames.j1]; rw [if_neg (by simp)]) ?_
  -- behind the loop
  have tail : (∀ s ∈ l, isName s = true ∨ forbOf s = true) → Ev (fun k => (laws_joined.f k l (⟨#[44, 32]⟩ : ByteArray)).bind fun t => ((impl_TrailerScript.f (([(⟨4, (⟨#[]⟩ : ByteArray), t, 0, 0⟩ : Step), (⟨7, (⟨#[]⟩ : ByteArray), (⟨#[]⟩ : ByteArray), 0, 0⟩ : Step), (⟨5, (⟨#[]⟩ : ByteArray), (⟨#[]⟩ : ByteArray), 0, 0⟩ : Step), (⟨8, (⟨#[]⟩ : ByteArray), (⟨#[]⟩ : ByteArray), 0, 0⟩ : Step)] : List Step))).bind fun bt => (if bt.2.2 = true then (if (bt.1.length : Int) = 4 then (if 0 < (bt.1.length : Int) then (if 0 ≤ (wrap64 ((l.length : Int) - 1)) then (if (wrap64 ((l.length : Int) - 1)) < (l.length : Int) then ((laws_forbidden.f (rdOf ByteArray.empty l (wrap64 ((l.length : Int) - 1)))).bind fun t3 => (if (((rd_T32 bt.1 0).f1) == t3) = true then (laws_FnTrailerNames.j4 k (wantN l) bt.1 true) else (if 1 < (bt.1.length : Int) then ((laws_samePairs.f k ((rd_T32 bt.1 1).f4) (wantN l)).bind fun t5 => (if t5 = true then (if 3 < (bt.1.length : Int) then (laws_FnTrailerNames.j4 k (wantN l) bt.1 (((rd_T32 bt.1 3).f1) != (((wantN l).length : Int) == 0))) else (none)) else (laws_FnTrailerNames.j4 k (wantN l) bt.1 true))) else (none)))) else (none)) else (none)) else (none)) else (laws_FnTrailerNames.j4 k (wantN l) bt.1 true)) else (laws_FnTrailerNames.j4 k (wantN l) bt.1 true)))) true := by
    intro hall
    have hsz : ∀ s ∈ l, s.size ≤ 60 := fun s hs => (name_key (hall s hs)).2
    obtain ⟨J, hJ, hJn⟩ := joined_endsC (⟨#[44, 32]⟩ : ByteArray) l 100 (by decide) (by omega) (fun s hs => by have := hsz s hs; show s.size + 2 ≤ 100; omega) (by omega)
    rw [show ns (⟨#[44, 32]⟩ : ByteArray) = [44, 32] from by decide, joinN_joinC] at hJn
    have hJs : J.size ≤ 1000000 := by
      rw [← ns_length, hJn]
      have : ∀ G : List ByteArray, (∀ s ∈ G, s.size ≤ 60) → (joinC (G.map ns)).length ≤ G.length * 62 := by
        intro G
        induction G with
        | nil => intro _; simp [joinC]
        | cons s t ih =>
          intro hs
          have h1 := hs s (by simp)
          have h2 := ih (fun x hx => hs x (List.mem_cons_of_mem _ hx))
          rw [List.map_cons, joinC_cons]
          simp only [List.length_append, List.length_cons, ns_length]
          split <;> simp <;> omega
      have := this l hsz
      omega
    obtain ⟨T2, x2⟩ := names_script l J hne (by omega) hall hJn hJs
    refine Ev.bind hJ (Ev.call (script_is (by simp) x2) (Ev.if_true rfl (Ev.if_true rfl (Ev.if_true (by simp) ?_))))
    have hlpos : 0 < l.length := List.length_pos_iff.2 hne
    have hw : wrap64 ((l.length : Int) - 1) = ((l.length - 1 : Nat) : Int) := by unfold wrap64; omega
    have hrd : rdOf ByteArray.empty l ((l.length - 1 : Nat) : Int) = l.getLast hne := by
      rw [rdOf_nat _ _ _ (by omega), List.getLast_eq_getElem]
    rw [hw, hrd]
    refine Ev.if_true (by omega) (Ev.if_true (by omega) (Ev.call (forb_is _ (by have := hsz _ (List.getLast_mem hne); omega)) (Ev.if_false ?_ (Ev.if_true (by simp) ?_))))
    · show ¬ (((!forbOf (l.getLast hne)) == forbOf (l.getLast hne)) = true)
      cases forbOf (l.getLast hne) <;> decide
    refine Ev.bind (samePairs_self (wantN l) ?_) (Ev.if_true rfl (Ev.if_true (by simp) ?_))
    · unfold wantN
      rw [List.length_map]
      have := List.length_filter_le (fun s => !forbOf s) l
      omega
    have hsame : ((decide ((wantN l).length = 0)) != (((wantN l).length : Int) == 0)) = false := by
      cases h : wantN l with
      | nil => rfl
      | cons a t => simp; omega
    show Ev (fun k => laws_FnTrailerNames.j4 k (wantN l) _ ((decide ((wantN l).length = 0)) != (((wantN l).length : Int) == 0))) true
    rw [hsame]
    refine Ev.step (f := _) (fun k => by simp only [laws_FnTrailerNames.j4]; rw [if_neg (by simp)]) ?_
    obtain ⟨W, hW⟩ : ∃ W, wantN l = W := ⟨_, rfl⟩
    have hWl : W.length ≤ 12 := by
      rw [← hW]; unfold wantN
      rw [List.length_map]
      have := List.length_filter_le (fun s => !forbOf s) l
      omega
    have hWs : ∀ p ∈ W, p.f0.size ≤ 60 := fun p hp => by
      rw [← hW] at hp
      unfold wantN at hp
      obtain ⟨s, hs, rfl⟩ := List.mem_map.1 hp
      show (strOfNums (nk (ns s))).size ≤ 60
      rw [strOfNums_size, nk_length, ns_length]
      exact hsz s (List.mem_filter.1 hs).1
    rw [hW]
    obtain ⟨AN, hAN⟩ : ∃ AN : List Ans, ([⟨⟨#[]⟩, !forbOf (l.getLast hne), 0, [], []⟩, ⟨⟨#[]⟩, false, 0, [], W⟩, ⟨strOfNums (joinC (W.map fun p => ns p.f0)), false, 0, [], []⟩, ⟨⟨#[]⟩, decide (W.length = 0), 0, [], []⟩] : List Ans) = AN := ⟨_, rfl⟩
    have hA2 : (rd_T32 AN 2).f0 = strOfNums (joinC (W.map fun p => ns p.f0)) := by rw [← hAN]; rfl
    have hAl : AN.length = 4 := by rw [← hAN]; rfl
    show Ev (fun k => laws_FnTrailerNames.l1 k _ [] W (W.length : Int) 0) true
    rw [hAN]
    have loop : ∀ (d i : Nat), i + d = W.length → Ev (fun k => laws_FnTrailerNames.l1 k AN ((W.take i).map fun p => p.f0) W (W.length : Int) (i : Int)) true := by
      intro d
      induction d with
      | zero =>
        intro i hi
        have hWt : W.take i = W := List.take_of_length_le (by omega)
        rw [hWt]
        obtain ⟨J2, hJ2, hJ2n⟩ := joined_endsC (⟨#[44, 32]⟩ : ByteArray) (W.map fun p => p.f0) 100 (by decide) (by rw [List.length_map]; omega) (fun s hs => by
          obtain ⟨p, hp, rfl⟩ := List.mem_map.1 hs
          have := hWs p hp; show p.f0.size + 2 ≤ 100; omega) (by rw [List.length_map]; omega)
        rw [show ns (⟨#[44, 32]⟩ : ByteArray) = [44, 32] from by decide, joinN_joinC, List.map_map] at hJ2n
        refine Ev.step (f := _) (fun k => by simp only [laws_FnTrailerNames.l1]; rw [if_neg (by omega)]) ?_
        refine Ev.if_true (by omega) (Ev.bind hJ2 (Ev.val ?_))
        rw [hA2]
        have : strOfNums (joinC (W.map fun p => ns p.f0)) = J2 := by
          have e2 : joinC (W.map fun p => ns p.f0) = ns J2 := hJ2n.symm
          rw [e2]; exact self_str J2
        rw [this]; simp
      | succ d ih =>
        intro i hi
        have hlt : i < W.length := by omega
        refine Ev.step (f := fun k => laws_FnTrailerNames.l1 k AN ((W.take (i + 1)).map fun p => p.f0) W (W.length : Int) ((i + 1 : Nat) : Int)) (fun k => ?_) (ih (i + 1) (by omega))
        have hr : rd_T34 W (i : Int) = W[i] := by
          unfold rd_T34
          simp [List.getD_eq_getElem?_getD, hlt]
        simp only [laws_FnTrailerNames.l1]
        rw [if_pos (by omega), if_pos (by omega), if_pos (by omega), if_pos (by rw [List.length_map, List.length_take]; omega), wrap_add (by omega) (by omega), hr, take_snoc W i hlt, List.map_append]
        rfl
    have := loop W.length 0 (by omega)
    simpa using this
  -- the loop
  have loop : ∀ (d i : Nat), i + d = l.length → (∀ s ∈ l.take i, isName s = true ∨ forbOf s = true) → Ev (fun k => laws_FnTrailerNames.l0 k l (wantN (l.take i)) l (l.length : Int) (i : Int)) true := by
    intro d
    induction d with
    | zero =>
      intro i hi hall
      have ht : l.take i = l := List.take_of_length_le (by omega)
      rw [ht] at hall ⊢
      refine Ev.step (f := _) (fun k => by simp only [laws_FnTrailerNames.l0]; rw [if_neg (by omega)]) ?_
      exact tail hall
    | succ d ih =>
      intro i hi hall
      have hlt : i < l.length := by omega
      have hsi := hfs _ (List.getElem_mem hlt)
      have hwl : (wantN (l.take i)).length < 4398046511104 := by
        unfold wantN
        rw [List.length_map]
        have h1 := List.length_filter_le (fun s => !forbOf s) (l.take i)
        have h2 : (l.take i).length ≤ i := List.length_take_le _ _
        omega
      have next : (isName l[i] = true ∨ forbOf l[i] = true) → Ev (fun k => laws_FnTrailerNames.j3 k l (wantN (l.take i)) l[i] l (l.length : Int) (i : Int) false) true := by
        intro hn
        have hall2 : ∀ s ∈ l.take (i + 1), isName s = true ∨ forbOf s = true := by
          intro s hs
          rw [take_snoc l i hlt] at hs
          rcases List.mem_append.1 hs with h | h
          · exact hall s h
          · rw [List.mem_singleton] at h; rw [h]; exact hn
        have hih := ih (i + 1) (by omega) hall2
        rw [take_snoc l i hlt, wantN_snoc] at hih
        refine Ev.step (f := _) (fun k => by simp only [laws_FnTrailerNames.j3]; rw [if_neg (by simp)]) ?_
        rw [wrap_add (by omega) (by omega)]
        refine Ev.call (forb_is _ (by omega)) (Ev.ite (fun hf => ?_) (fun hf => Ev.call (normal_is _ (by omega)) (Ev.if_true hwl ?_)))
        · rw [if_pos hf, List.append_nil] at hih
          exact hih
        · rw [if_neg hf] at hih
          exact hih
      refine Ev.step (f := fun k => (laws_name.f k l[i]).bind fun t => if t = true then laws_FnTrailerNames.j3 k l (wantN (l.take i)) l[i] l (l.length : Int) (i : Int) false else (laws_forbidden.f l[i]).bind fun t2 => laws_FnTrailerNames.j3 k l (wantN (l.take i)) l[i] l (l.length : Int) (i : Int) (!t2)) (fun k => ?_) ?_
      · simp only [laws_FnTrailerNames.l0]
        rw [if_pos (by omega), if_pos (by omega), if_pos (by omega), rdOf_nat _ _ _ hlt]
      · refine Ev.bind (name_ends _ (by omega)) (Ev.ite (fun h => next (.inl h)) (fun _ => Ev.call (forb_is _ (by omega)) ?_))
        cases hf : forbOf l[i] with
        | true => exact next (.inr hf)
        | false => exact s3t _ _ _ _ _
  have := loop l.length 0 (by omega) (by simp)
  exact this
end Go.Proofs.Ytoimkmoalmmooaa.Pure
namespace Go.Proofs.Ytoimkmoalmmooaa.RowX
open Go.ChangeShapes Go.WideShapes Go.Proofs.YtoimkmoalmmooaaW.PrintWords
theorem open_strs_C {H : Type} {enc : TypeId × Value → H} {P : Program} {W : World} {base : Nat} {spare : Nat → Bool} {held : Bool} {t e : TypeId} {a : Option Addr} {len cap : Nat} {d : DataW H} {ps : List MemPlace} {ts : List TypeId} {ds : List (DataW H)} {j : Nat}
    (hsz : (DataW.weightsEach P ts ds).all (· ≤ reachBytes) = true) (ht : ts[j]? = some t) (hd : ds[j]? = some d) (hu : P.underlying t = some (.slice e)) (he : P.underlying e = some .string) (hc : P.cellsOf e = 1) (hB : P.bytesOf e = 16)
    (h : DataW.Trod enc P W base spare held t (.slice a len cap) d ps) :
    ∃ l : List ByteArray, len = l.length ∧ Kd.C Kd.string W a l.length l ∧ l.length ≤ cap ∧ l.length * 16 ≤ 140737488351232 := by
  obtain ⟨fuel, hf⟩ := h
  rcases open_strings hu he hc hf with ⟨hcs, _⟩ | ⟨x, l, c, ss, hcs, _, hl, hm, hz, hx, hcell, _⟩
  · simp [Value.cells] at hcs
    obtain ⟨rfl, rfl, rfl⟩ := hcs
    refine ⟨[], rfl, Kd.C_of_reads (d := ByteArray.empty) (h1 := fun _ => rfl) ⟨rfl, by simp, fun hp => by simp at hp⟩, by simp, by simp⟩
  · simp [Value.cells] at hcs
    obtain ⟨rfl, rfl, rfl⟩ := hcs
    obtain ⟨hx, _⟩ := Prod.mk.inj hx
    subst hx
    have z := sized_slice hsz ht hd hu
    rw [hB] at z
    have hl2 : len ≤ ss.length := by
      rw [hz]
      split
      · exact hl
      · exact Nat.le_refl _
    have hlen : (ss.take len).length = len := by rw [List.length_take]; omega
    have h1 : (ChangeShapes.strs (H := H) (ss.take len)).length + (ChangeShapes.strs (H := H) (ss.drop len)).length = ss.length := by
      simp [ChangeShapes.strs]
      omega
    rw [h1] at z
    have hr : reachBytes = 140737488351232 := by decide
    have hz2 : len * 16 ≤ 140737488351232 := by
      have : len * 16 ≤ ss.length * 16 := Nat.mul_le_mul_right _ hl2
      omega
    refine ⟨ss.take len, hlen.symm, Kd.C_of_reads (d := ByteArray.empty) (h1 := fun _ => rfl) ?_, by rw [hlen]; exact hl, by rw [hlen]; exact hz2⟩
    rw [hlen]
    refine ⟨hlen, by omega, fun _ => ⟨x, rfl, fun i hi => ?_⟩⟩
    rw [hcell i (by omega)]
    simp [List.getD_eq_getElem?_getD, hi]
end Go.Proofs.Ytoimkmoalmmooaa.RowX
namespace Go.Proofs.Ytoimkmoalmmooaa.fnTrailerNames
open Go.ChangeShapes Go.WideShapes Go.ChangeAt Go.RowKit
open Go.ChangeMaps (open_string shut_string)
set_option linter.unusedVariables false
theorem own : ownKnob Try.prog.godebug = none := by kernel_rfl
theorem laidOut : laidOutB Try.prog = true := by kernel_rfl
set_option maxRecDepth 100000 in
theorem lifted (os : Os) (started : os.Started) (H : Type) (enc : TypeId × Value → H) :
    ReturnsInHanded {} Try.checked os 3 .any (Rows.fnTrailerNamesSpec.pre6 enc Try.prog Try.f3 Rows.fnTrailerNamesRow.domain false) (Rows.fnTrailerNamesSpec.post enc Try.prog Try.f3 false true false false) := by
  refine returnsInHanded_of_change_sized (C := Try.checked) own started (by kernel_rfl) Try.func3
    (ChangeSpec.witness6 (enc := enc) (C := Try.checked) false ⟨#[], #[.slice none 0 0], []⟩ 8 (by kernel_rfl) (by kernel_rfl) (by kernel_rfl) (by kernel_rfl)) ?_
  intro W base args ds gs before hval0 hW hcnd hsz0 _
  have hsz : (DataW.weightsEach Try.prog (Try.f3.params.toList ++ Rows.fnTrailerNamesSpec.plain.varTypes Try.prog) (ds ++ gs)).all (· ≤ reachBytes) = true := hsz0
  have hval : ∀ (j : Nat) t v, Try.f3.params[j]? = some t → args[j]? = some v → Value.okWide Try.prog W .any base t v := hval0
  have hW' := hW
  obtain ⟨p, q, hA0, hV, rfl, hfz, hnd⟩ := hW
  have hA : DataW.TrodAll enc Try.prog W 0 (fun _ => true) true Try.f3.params.toList args.toList ds p := hA0
  rw [Try.params3] at hA hval hsz
  obtain ⟨v0, vs0, d0, ds0, p0, q0, hargs, rfl, rfl, h0, r0⟩ := trodAll_cons hA
  obtain ⟨rfl, rfl, rfl⟩ := trodAll_nil r0
  obtain rfl : args = #[v0] := by cases args; simp_all
  obtain ⟨rfl, rfl⟩ := trodVars_none hV
  obtain ⟨a0, len0, cap0, rfl⟩ := okWide_slice Try.underlying22 (hval 0 22 v0 rfl rfl)
  have k0 := h0
  have lt0 : ∀ x ∈ p0, x.block < W.heap.size := by obtain ⟨m, hm⟩ := k0; exact DataW.trod_lt m _ _ _ hm
  obtain ⟨l0, rfl, w0, y0, m0⟩ := Go.Proofs.Ytoimkmoalmmooaa.RowX.open_strs_C hsz (j := 0) (t := 22) rfl rfl Try.underlying22 Try.underlying9 (by kernel_rfl) (by kernel_rfl) h0
  clear hA0 hval0 hsz0 hsz
  refine (QA.laws_FnTrailerNames.walk Pure.FnTrailerNames a0 cap0 l0 W w0 y0 m0).mono fun e W' ⟨he, bel⟩ => ?_
  subst he
  exact ⟨_, rfl, _, _, _, [], _, [], hW', trodAll_mk1 (shut_bool Try.underlying4 _), (trodAll_cons_mk (Below.trod laidOut (by kernel_rfl) (of_decide_eq_true (by kernel_rfl)) k0 bel lt0) trodAll_mk0), rfl, bel.frame _, fun h => by cases h⟩
theorem over : Rows.fnTrailerNamesRow.holds Try.pinned (OpenSpec.ofChange Rows.fnTrailerNamesSpec) :=
  OpenClaim.holds_of_wide 3 Try.f3 rfl rfl rfl rfl rfl rfl rfl ⟨rfl, rfl, rfl, rfl, rfl⟩ rfl rfl rfl rfl rfl (by kernel_rfl) Try.func3 (by kernel_rfl)
    (of_decide_eq_true (by kernel_rfl)) (by unfold Func.isWrapper; first | (rw [if_pos (by decide +kernel)]; kernel_rfl) | (rw [if_neg (by decide +kernel)]; exact ⟨rfl, rfl⟩))
    (fun os started H enc _ => lifted os started H enc)
theorem proved : Rows.FnTrailerNamesSaid := over
end Go.Proofs.Ytoimkmoalmmooaa.fnTrailerNames
namespace Go.Proofs.Ytoimkmoalmmooaa
theorem fnTrailerNames_holds : Rows.FnTrailerNamesSaid := fnTrailerNames.proved
end Go.Proofs.Ytoimkmoalmmooaa
