/- The law FnKeysNormal answers true at every two texts: a normal key is the same key, and normal again; keys that are the same have the same normal one. No condition beyond the row's own. -/
import Derived.Test.YtdfeojkombmiaaaQA18
import Derived.Test.YtdfeojkombmiaaaLName
namespace Go.Proofs.Ytdfeojkombmiaaa.Pure
open Go.RowKit Go.Proofs.Ytdfeojkombmiaaa.QA Go.Proofs.YtdfeojkombmiaaaW.PrintWords Go.Proofs.YtdfeojkombmiaaaW.PrintLast Go.Proofs.Ytdfeojkombmiaaa.Base Go.Proofs.Ytdfeojkombmiaaa.Given Go.Proofs.Ytdfeojkombmiaaa.Gv

theorem lo_up (x : Int) : lo (up x) = lo x := by
  unfold lo Gv.up
  (repeat' split) <;> omega
theorem map_lo_nkTail : ∀ l : List Int, (nkTail l).map lo = l.map lo
  | [] => rfl
  | [x] => by
    unfold nkTail
    split
    · rename_i h; subst h; rfl
    · simp [lo_lo]
  | x :: y :: l => by
    have h1 := map_lo_nkTail l
    have h2 := map_lo_nkTail (y :: l)
    unfold nkTail
    split
    · rename_i h; subst h; simp [lo_up, h1]
    · simp only [List.map_cons, lo_lo] at h2 ⊢
      rw [h2]
theorem map_lo_nk (l : List Int) : (nk l).map lo = l.map lo := by
  cases l with
  | nil => rfl
  | cons a l => simp [nk, lo_up, map_lo_nkTail]
theorem nk_nk (l : List Int) : nk (nk l) = nk l := by rw [← nk_lo (nk l), map_lo_nk, nk_lo]
theorem nk_iff (a b : List Int) : nk a = nk b ↔ a.map lo = b.map lo :=
  ⟨fun h => by rw [← map_lo_nk a, h, map_lo_nk], fun h => by rw [← nk_lo a, h, nk_lo]⟩
def o32 (x : Int) : Int := Go.bits .or .u8 x 32
theorem o32_fin : ∀ n : Fin 256, nB ((n.val : Nat) : Int) = true → o32 ((n.val : Nat) : Int) = lo ((n.val : Nat) : Int) := by decide +kernel
theorem o32_is (x : Int) (h0 : 0 ≤ x) (h1 : x ≤ 255) (h : nB x = true) : o32 x = lo x := by
  obtain ⟨n, rfl⟩ := Int.eq_ofNat_of_zero_le h0
  exact o32_fin ⟨n, by omega⟩ h
theorem nB_fin : ∀ n : Fin 256, nB ((n.val : Nat) : Int) = true → nB (lo ((n.val : Nat) : Int)) = true ∧ nB (up ((n.val : Nat) : Int)) = true := by decide +kernel
theorem nB_lo (x : Int) (h0 : 0 ≤ x) (h1 : x ≤ 255) (h : nB x = true) : nB (lo x) = true ∧ nB (up x) = true := by
  obtain ⟨n, rfl⟩ := Int.eq_ofNat_of_zero_le h0
  exact nB_fin ⟨n, by omega⟩ h
theorem nkTail_nB : ∀ l : List Int, (∀ x ∈ l, (0 ≤ x ∧ x ≤ 255) ∧ nB x = true) → ∀ x ∈ nkTail l, nB x = true
  | [], _ => by simp [nkTail]
  | [x], h => by
    have hx := h x (by simp)
    have := nB_lo x hx.1.1 hx.1.2 hx.2
    unfold nkTail
    split
    · simp [nB]
    · intro z hz
      simp only [List.mem_singleton] at hz
      rw [hz]; exact this.1
  | x :: y :: l, h => by
    have h1 := nkTail_nB l (fun z hz => h z (by simp [hz]))
    have h2 := nkTail_nB (y :: l) (fun z hz => h z (List.mem_cons_of_mem _ hz))
    have hx := h x (by simp)
    have hy := h y (by simp)
    have hx2 := nB_lo x hx.1.1 hx.1.2 hx.2
    have hy2 := nB_lo y hy.1.1 hy.1.2 hy.2
    intro z hz
    unfold nkTail at hz
    split at hz
    · rcases List.mem_cons.1 hz with rfl | hz
      · rfl
      · rcases List.mem_cons.1 hz with rfl | hz
        · exact hy2.2
        · exact h1 z hz
    · rcases List.mem_cons.1 hz with rfl | hz
      · exact hx2.1
      · exact h2 z hz
theorem nk_nB (l : List Int) (h : ∀ x ∈ l, (0 ≤ x ∧ x ≤ 255) ∧ nB x = true) : ∀ x ∈ nk l, nB x = true := by
  cases l with
  | nil => simp [nk]
  | cons a l =>
    intro z hz
    have ha := h a (by simp)
    rcases List.mem_cons.1 hz with rfl | hz
    · exact (nB_lo a ha.1.1 ha.1.2 ha.2).2
    · exact nkTail_nB l (fun x hx => h x (List.mem_cons_of_mem _ hx)) z hz
theorem cic_from (a b : List Int) (hl : a.length = b.length) (hs : a.length ≤ 140737488351232) (d : Nat) : ∀ i : Nat, i + d = a.length → Ev (fun k => hertzutils_CaseInsensitiveCompare.l0 k a b (i : Int)) (decide ((a.drop i).map o32 = (b.drop i).map o32)) := by
  induction d with
  | zero =>
    intro i hi
    refine Ev.step (f := fun _ => some true) (fun k => ?_) (Ev.val ?_)
    · simp only [hertzutils_CaseInsensitiveCompare.l0]; rw [if_neg (by omega)]
    · rw [List.drop_eq_nil_of_le (by omega), List.drop_eq_nil_of_le (by omega)]; rfl
  | succ d ih =>
    intro i hi
    have ha : i < a.length := by omega
    have hb : i < b.length := by omega
    have ea : rd a (i : Int) = a[i] := by unfold rd; rw [Int.toNat_natCast, List.getD_eq_getElem?_getD, List.getElem?_eq_getElem ha]; rfl
    have eb : rd b (i : Int) = b[i] := by unfold rd; rw [Int.toNat_natCast, List.getD_eq_getElem?_getD, List.getElem?_eq_getElem hb]; rfl
    refine Ev.step (f := fun k => if o32 a[i] = o32 b[i] then hertzutils_CaseInsensitiveCompare.l0 k a b ((i + 1 : Nat) : Int) else some false) (fun k => ?_) ?_
    · simp only [hertzutils_CaseInsensitiveCompare.l0]
      rw [if_pos (by omega), if_pos (by omega), if_pos (by omega), ea, eb, wrap_add (by omega) (by omega)]
      rfl
    · rw [List.drop_eq_getElem_cons ha, List.drop_eq_getElem_cons hb, List.map_cons, List.map_cons]
      refine Ev.ite (fun h => ?_) (fun h => Ev.val ?_)
      · simp only [h, List.cons.injEq, true_and]
        exact ih (i + 1) (by omega)
      · simp [h]
theorem cic_ends (a b : List Int) (hs : a.length ≤ 140737488351232) : Ev (fun k => hertzutils_CaseInsensitiveCompare.f k a b) (decide (a.map o32 = b.map o32)) := by
  simp only [hertzutils_CaseInsensitiveCompare.f]
  refine Ev.ite (fun h => cic_from a b (by omega) hs a.length 0 (by omega)) (fun h => Ev.val ?_)
  rw [decide_eq_false]
  intro e
  have := congrArg List.length e
  simp at this
  omega
/-- For keys of letters, digits and hyphens: the same but for the letters' case. -/
theorem cic_names (a b : List Int) (hs : a.length ≤ 140737488351232) (ha : ∀ x ∈ a, (0 ≤ x ∧ x ≤ 255) ∧ nB x = true) (hb : ∀ x ∈ b, (0 ≤ x ∧ x ≤ 255) ∧ nB x = true) : Ev (fun k => hertzutils_CaseInsensitiveCompare.f k a b) (decide (a.map lo = b.map lo)) := by
  have h := cic_ends a b hs
  have e1 : a.map o32 = a.map lo := List.map_congr_left (fun x hx => o32_is x (ha x hx).1.1 (ha x hx).1.2 (ha x hx).2)
  have e2 : b.map o32 = b.map lo := List.map_congr_left (fun x hx => o32_is x (hb x hx).1.1 (hb x hx).1.2 (hb x hx).2)
  rw [e1, e2] at h
  exact h
theorem nkey_is (s : ByteArray) (h : s.size ≤ 4611686018427387904) : impl_NormalKey.f s = some (strOfNums (nk (ns s))) := if_pos h
theorem normal_is (s : ByteArray) (h : s.size ≤ 4611686018427387904) : laws_normal.f s = some (strOfNums (nk (ns s))) := if_pos h
theorem low_is (s : ByteArray) (h : s.size ≤ 4611686018427387904) : laws_low.f s = some (strOfNums ((ns s).map lo)) := if_pos h
theorem same_ends (a b : ByteArray) (ha : a.size ≤ 140737488351232) (hb : b.size ≤ 140737488351232) (r : Bool) (h : Ev (fun k => hertzutils_CaseInsensitiveCompare.f k (ns a) (ns b)) r) : Ev (fun k => impl_SameKey.f k a b) r := by
  have e : ∀ k, impl_SameKey.f k a b = hertzutils_CaseInsensitiveCompare.f k (ns a) (ns b) := fun k => if_pos ⟨by omega, by omega⟩
  exact Ev.congr e h
theorem str_eq_iff {x y : List Int} (hx : ∀ z ∈ x, 0 ≤ z ∧ z ≤ 255) (hy : ∀ z ∈ y, 0 ≤ z ∧ z ≤ 255) : (strOfNums x).toList = (strOfNums y).toList ↔ x = y := by
  rw [toList_eq_iff]
  exact ⟨fun h => by have := congrArg ns h; rwa [ns_strOfNums hx, ns_strOfNums hy] at this, fun h => by rw [h]⟩
theorem FnKeysNormal : laws_FnKeysNormal.Pure := by
  intro a b ha hb
  refine Ev.rounds ?_
  simp only [laws_FnKeysNormal.f]
  have s0 : Ev (fun k => laws_FnKeysNormal.j0 k a b true) true := Ev.step (f := fun _ => some true) (fun k => rfl) (Ev.now _)
  have s2t : Ev (fun k => laws_FnKeysNormal.j2 k a b true) true := Ev.step (f := fun _ => some true) (fun k => rfl) (Ev.now _)
  have s2 : isName a = true → isName b = true → Ev (fun k => laws_FnKeysNormal.j2 k a b false) true := by
    intro na nb
    obtain ⟨_, sa, ma⟩ := isName_mem na
    obtain ⟨_, sb, mb⟩ := isName_mem nb
    have ra : ∀ x ∈ ns a, 0 ≤ x ∧ x ≤ 255 := fun x hx => ns_range a x hx
    have rb : ∀ x ∈ ns b, 0 ≤ x ∧ x ≤ 255 := fun x hx => ns_range b x hx
    have ka := nk_range _ ra
    have kb := nk_range _ rb
    have la : ∀ x ∈ (ns a).map lo, 0 ≤ x ∧ x ≤ 255 := fun x hx => by obtain ⟨y, hy, rfl⟩ := List.mem_map.1 hx; exact lo_range (ra y hy)
    have lb : ∀ x ∈ (ns b).map lo, 0 ≤ x ∧ x ≤ 255 := fun x hx => by obtain ⟨y, hy, rfl⟩ := List.mem_map.1 hx; exact lo_range (rb y hy)
    have za : (strOfNums (nk (ns a))).size = a.size := by rw [strOfNums_size, nk_length, ns_length]
    refine Ev.step (f := _) (fun k => by simp only [laws_FnKeysNormal.j2]; rw [if_neg (by simp)]) ?_
    refine Ev.call (nkey_is a (by omega)) (Ev.call (nkey_is b (by omega)) (Ev.call (normal_is a (by omega)) (Ev.if_true rfl ?_)))
    refine Ev.call (nkey_is _ (by omega)) (Ev.if_true (by rw [ns_strOfNums ka, nk_nk]) ?_)
    have c1 := cic_names (nk (ns a)) (ns a) (by rw [nk_length, ns_length]; omega) (fun x hx => ⟨ka x hx, nk_nB _ (fun y hy => ⟨ra y hy, ma y hy⟩) x hx⟩) (fun y hy => ⟨ra y hy, ma y hy⟩)
    rw [decide_eq_true (map_lo_nk _)] at c1
    refine Ev.bind (same_ends _ a (by omega) (by omega) true (by rw [ns_strOfNums ka]; exact c1)) (Ev.if_true rfl ?_)
    have c2 := cic_names (ns a) (ns b) (by rw [ns_length]; omega) (fun y hy => ⟨ra y hy, ma y hy⟩) (fun y hy => ⟨rb y hy, mb y hy⟩)
    refine Ev.bind (same_ends a b (by omega) (by omega) _ c2) ?_
    refine Ev.call (low_is a (by omega)) (Ev.call (low_is b (by omega)) (Ev.if_true ?_ ?_))
    · have e := str_eq_iff la lb
      by_cases h : (ns a).map lo = (ns b).map lo
      · rw [h]; simp
      · rw [decide_eq_false h, beq_eq_false_iff_ne.2 (fun h2 => h (e.1 h2))]; rfl
    · refine Ev.call (low_is a (by omega)) (Ev.call (low_is b (by omega)) (Ev.val ?_))
      have e := str_eq_iff la lb
      have e2 := str_eq_iff ka kb
      by_cases h : (ns a).map lo = (ns b).map lo
      · rw [h, (nk_iff _ _).2 h]; simp
      · rw [beq_eq_false_iff_ne.2 (fun h2 => h (e.1 h2)), beq_eq_false_iff_ne.2 (fun h2 => h ((nk_iff _ _).1 (e2.1 h2)))]; rfl
  have s1 : Ev (fun k => laws_FnKeysNormal.j1 k a b false) true := by
    refine Ev.step (f := _) (fun k => by simp only [laws_FnKeysNormal.j1]; rw [if_neg (by simp)]) ?_
    refine Ev.bind (name_ends a ha) (Ev.ite (fun na => Ev.bind (name_ends b hb) ?_) (fun _ => s2t))
    cases nb : isName b
    · exact s2t
    · exact s2 na nb
  have s0' : Ev (fun k => laws_FnKeysNormal.j0 k a b false) true := by
    refine Ev.step (f := _) (fun k => by simp only [laws_FnKeysNormal.j0]; rw [if_neg (by simp)]) ?_
    refine Ev.call (nkey_is _ (by decide)) (Ev.if_true (by decide +kernel) ?_)
    have c := cic_ends (ns (⟨#[120, 45, 97, 66]⟩ : ByteArray)) (ns (⟨#[88, 45, 65, 98]⟩ : ByteArray)) (by decide)
    rw [decide_eq_true (by decide +kernel)] at c
    refine Ev.bind (same_ends _ _ (by decide) (by decide) true c) s1
  refine Ev.ite (fun _ => s0) (fun _ => ?_)
  cases decide ((b.size : Int) > 2147483647)
  · exact s0'
  · exact s0
end Go.Proofs.Ytdfeojkombmiaaa.Pure
