/- The law FnLines answers true at every list of texts and switches: lines are told as they were. No condition beyond the row's own. -/
import Derived.Test.YtdfeojkombmiaaaDoorQA4
import Derived.Test.YtdfeojkombmiaaaDoorLShort
import Derived.Test.YtdfeojkombmiaaaDoorLFits
import Derived.Test.YtdfeojkombmiaaaDoorLHolds
set_option linter.unusedVariables false
namespace Go.Proofs.YtdfeojkombmiaaaDoor.Pure
open Go.RowKit Go.Proofs.YtdfeojkombmiaaaDoor.QA Go.Proofs.YtdfeojkombmiaaaDoorW.PrintWords Go.Proofs.YtdfeojkombmiaaaDoorW.PrintLast Go.Proofs.YtdfeojkombmiaaaDoor.Base Go.Proofs.YtdfeojkombmiaaaDoor.Given

theorem emp_toList : (⟨#[]⟩ : ByteArray).toList = [] := by decide +kernel
theorem str_ns (s : ByteArray) : strOfNums (ns s) = s := ns_inj (ns_strOfNums (fun x hx => ns_range s x hx))
def lineN (s : ByteArray) (c : Bool) : List Int := (ns s ++ (if c then [13] else [])) ++ [10]
def txt : List (ByteArray × Bool) → List Int
  | [] => []
  | p :: l => lineN p.1 p.2 ++ txt l
theorem txt_append (a b : List (ByteArray × Bool)) : txt (a ++ b) = txt a ++ txt b := by
  induction a with
  | nil => rfl
  | cons p a ih => simp [txt, ih]
theorem txt_len (B : Nat) : ∀ l : List (ByteArray × Bool), (∀ p ∈ l, p.1.size ≤ B) → (txt l).length ≤ l.length * (B + 2) := by
  intro l
  induction l with
  | nil => intro _; simp [txt]
  | cons p l ih =>
    intro h
    have h1 := ih (fun q hq => h q (List.mem_cons_of_mem _ hq))
    have h2 := h p (by simp)
    have h3 : (if p.2 = true then [(13 : Int)] else []).length ≤ 1 := by split <;> simp
    simp only [txt, lineN, List.length_append, List.length_cons, List.length_nil, ns_length, Nat.add_mul]
    omega
/-- No line feed in it, no carriage return at its end. -/
def okS (s : ByteArray) : Prop := (10 : Int) ∉ ns s ∧ (0 < s.size → (ns s).getD (s.size - 1) 0 ≠ 13)
theorem idx_at (pre post : List Int) (c : Int) (h : c ∉ pre) : idx (pre ++ c :: post) c = (pre.length : Int) := by
  induction pre with
  | nil => simp [idx]
  | cons x pre ih =>
    simp only [List.mem_cons, not_or] at h
    simp only [List.cons_append, idx]
    rw [if_neg (fun e => h.1 e.symm), ih h.2, if_neg (by omega), List.length_cons]
    omega
theorem next_line (s : ByteArray) (c : Bool) (rest : List Int) (x : ByteArray) (hok : okS s) (hx : ns x = lineN s c ++ rest) (hsz : x.size ≤ 4611686018427387904) : ∃ x', impl_NextLine.f x = some (s, x', true) ∧ ns x' = rest := by
  have h10 : (10 : Int) ∉ ns s ++ (if c then [13] else []) := by
    intro hm
    rcases List.mem_append.1 hm with h | h
    · exact hok.1 h
    · cases c <;> simp at h
  have hx2 : ns x = (ns s ++ (if c then [13] else [])) ++ 10 :: rest := by rw [hx, lineN, List.append_assoc]; rfl
  obtain ⟨pre, hpre⟩ : ∃ pre, ns s ++ (if c then [(13 : Int)] else []) = pre := ⟨_, rfl⟩
  rw [hpre] at hx2 h10
  have hidx : idx (ns x) 10 = (pre.length : Int) := by rw [hx2, idx_at _ _ _ h10]
  have hll : lineLen (ns x) pre.length = s.size := by
    unfold lineLen
    cases c with
    | true =>
      have hp : pre = ns s ++ [13] := by rw [← hpre]; rfl
      have hl : pre.length = s.size + 1 := by rw [hp, List.length_append, ns_length]; rfl
      have h13 : (ns x).getD s.size 0 = 13 := by
        rw [hx2, hp, List.append_assoc, List.getD_eq_getElem?_getD, List.getElem?_append_right (by rw [ns_length]; exact Nat.le_refl _), ns_length, Nat.sub_self]
        rfl
      rw [hl, Nat.add_sub_cancel, if_pos ⟨by omega, h13⟩]
    | false =>
      have hp : pre = ns s := by rw [← hpre]; simp
      have hl : pre.length = s.size := by rw [hp, ns_length]
      rw [hl, if_neg]
      rintro ⟨h0, h13⟩
      refine hok.2 h0 ?_
      rw [hx2, hp, List.getD_eq_getElem?_getD, List.getElem?_append_left (by rw [ns_length]; omega)] at h13
      rw [List.getD_eq_getElem?_getD]
      exact h13
  have hdrop : (ns x).drop (pre.length + 1) = rest := by
    rw [hx2, show pre ++ 10 :: rest = (pre ++ [10]) ++ rest by simp]
    exact List.drop_left' (by simp)
  have htake : (ns x).take s.size = ns s := by
    rw [hx2, ← hpre, List.append_assoc]
    exact List.take_left' (ns_length s)
  refine ⟨strOfNums rest, ?_, ?_⟩
  · unfold impl_NextLine.f
    rw [if_pos hsz, hidx, if_neg (by omega), Int.toNat_natCast, hll, hdrop, htake, str_ns]
  · refine ns_strOfNums (fun y hy => ns_range x y ?_)
    rw [← hdrop] at hy
    exact List.mem_of_mem_drop hy
theorem none_line (x : ByteArray) (hx : ns x = []) : impl_NextLine.f x = some (⟨#[]⟩, ⟨#[]⟩, false) := by
  have hz : x.size = 0 := by rw [← ns_length, hx]; rfl
  unfold impl_NextLine.f
  rw [if_pos (by omega), hx, if_pos (by rfl)]
theorem read_back (l : List ByteArray) (hl : l.length ≤ 20) : ∀ (ps : List (ByteArray × Bool)) (i : Nat) (x : ByteArray), i + ps.length = l.length → ps.map (·.1) = l.drop i → (∀ p ∈ ps, okS p.1 ∧ p.1.size ≤ 200) → ns x = txt ps →
    Ev (fun k => laws_FnLines.l1 k x l (l.length : Int) (i : Int)) true := by
  intro ps
  induction ps with
  | nil =>
    intro i x hi _ _ hx
    refine Ev.step (f := fun _ => some true) (fun k => ?_) (Ev.now _)
    have hxe : x = (⟨#[]⟩ : ByteArray) := ns_inj (by rw [hx]; rfl)
    simp only [laws_FnLines.l1]
    rw [if_neg (by simp at hi; omega), none_line x hx]
    subst hxe
    simp only [Option.bind_some, emp_toList]
    rfl
  | cons p ps ih =>
    intro i x hi hm hok hx
    have hlt : i < l.length := by simp at hi; omega
    have hsz : x.size ≤ 4611686018427387904 := by
      have := txt_len 200 (p :: ps) (fun q hq => (hok q hq).2)
      rw [← ns_length, hx]
      simp only [List.length_cons] at this hi
      omega
    rw [List.drop_eq_getElem_cons hlt, List.map_cons] at hm
    obtain ⟨hp1, hm2⟩ := List.cons.inj hm
    obtain ⟨x', hn, hx'⟩ := next_line p.1 p.2 (txt ps) x (hok p (by simp)).1 hx hsz
    refine Ev.step (f := fun k => laws_FnLines.l1 k x' l (l.length : Int) ((i + 1 : Nat) : Int)) (fun k => ?_) (ih (i + 1) x' (by simp at hi; omega) hm2 (fun q hq => hok q (List.mem_cons_of_mem _ hq)) hx')
    simp only [laws_FnLines.l1]
    rw [if_pos (by omega), if_pos (by omega), if_pos (by omega), hn, Option.bind_some, if_pos rfl, rdOf_nat _ _ _ hlt, if_pos (by rw [hp1]), wrap_add (by omega) (by omega)]
    rfl
theorem build (l : List ByteArray) (z : List Int) (hl : l.length ≤ 20) (hs : ∀ s ∈ l, s.size ≤ 200) : ∀ (d i : Nat) (x : ByteArray) (ps : List (ByteArray × Bool)), i + d = l.length → ps.map (·.1) = l.take i → (∀ p ∈ ps, okS p.1 ∧ p.1.size ≤ 200) → ns x = txt ps →
    Ev (fun k => laws_FnLines.l0 k l z x l (l.length : Int) (i : Int)) true := by
  intro d
  induction d with
  | zero =>
    intro i x ps hi hm hok hx
    have hlen : ps.length = l.length := by
      have := congrArg List.length hm
      rw [List.length_map, List.length_take] at this
      omega
    refine Ev.step (f := fun k => laws_FnLines.l1 k x l (l.length : Int) ((0 : Nat) : Int)) (fun k => ?_) (read_back l hl ps 0 x (by omega) (by rw [hm, List.drop_zero, List.take_of_length_le (by omega)]) hok hx)
    simp only [laws_FnLines.l0]
    rw [if_neg (by omega)]
    rfl
  | succ d ih =>
    intro i x ps hi hm hok hx
    have hlt : i < l.length := by omega
    obtain ⟨s, hse⟩ : ∃ s, l[i] = s := ⟨_, rfl⟩
    have hss : s.size ≤ 200 := by rw [← hse]; exact hs _ (List.getElem_mem hlt)
    have hxs : x.size ≤ 20 * 202 := by
      have h1 := txt_len 200 ps (fun q hq => (hok q hq).2)
      have h2 := congrArg List.length hm
      rw [List.length_map, List.length_take] at h2
      rw [← ns_length, hx]
      omega
    have stop : Ev (fun k => laws_FnLines.j4 k l z x (i : Int) s l (l.length : Int) (i : Int) true) true := Ev.step (f := fun _ => some true) (fun k => by simp only [laws_FnLines.j4]; rw [if_pos trivial]) (Ev.now _)
    have go : okS s → Ev (fun k => laws_FnLines.j4 k l z x (i : Int) s l (l.length : Int) (i : Int) false) true := by
      intro hoks
      have cont : ∀ (c : Bool) (y : ByteArray), ns y = ns x ++ lineN s c → Ev (fun k => laws_FnLines.l0 k l z y l (l.length : Int) ((i + 1 : Nat) : Int)) true := by
        intro c y hy
        refine ih (i + 1) y (ps ++ [(s, c)]) (by omega) ?_ ?_ ?_
        · rw [List.map_append, hm, List.take_succ_eq_append_getElem hlt, hse]
          rfl
        · intro p hp
          rcases List.mem_append.1 hp with h | h
          · exact hok p h
          · rw [List.mem_singleton.1 h]; exact ⟨hoks, hss⟩
        · rw [hy, hx, txt_append]
          simp [txt]
      have e10 : ns (⟨#[10]⟩ : ByteArray) = [10] := by decide
      have e13 : ns (⟨#[13]⟩ : ByteArray) = [13] := by decide
      have hf := cont false ((x ++ s) ++ (⟨#[10]⟩ : ByteArray)) (by rw [ns_append, ns_append, e10]; simp [lineN])
      have ht := cont true (((x ++ s) ++ (⟨#[13]⟩ : ByteArray)) ++ (⟨#[10]⟩ : ByteArray)) (by rw [ns_append, ns_append, ns_append, e10, e13]; simp [lineN])
      have hw : wrap64 ((i : Int) + 1) = ((i + 1 : Nat) : Int) := by rw [wrap_add (by omega) (by omega)]; rfl
      have z1 : (x ++ s).size = x.size + s.size := ByteArray.size_append
      have z2 : ((x ++ s) ++ (⟨#[13]⟩ : ByteArray)).size = x.size + s.size + 1 := by rw [ByteArray.size_append, z1]; rfl
      by_cases c1 : (i : Int) < (z.length : Int)
      · by_cases c2 : Int.tmod (rd z (i : Int)) 2 = 1
        · refine Ev.step (f := _) (fun k => ?_) ht
          simp only [laws_FnLines.j4]
          rw [if_neg (by simp), if_pos (by omega), if_pos c1, if_pos (by omega), if_pos c2, if_pos (by omega), if_pos (by omega), hw]
        · refine Ev.step (f := _) (fun k => ?_) hf
          simp only [laws_FnLines.j4]
          rw [if_neg (by simp), if_pos (by omega), if_pos c1, if_pos (by omega), if_neg c2, if_pos (by omega), hw]
      · refine Ev.step (f := _) (fun k => ?_) hf
        simp only [laws_FnLines.j4]
        rw [if_neg (by simp), if_pos (by omega), if_neg c1, if_pos (by omega), hw]
    refine Ev.step (f := fun k => (laws_holds.f k s 10).bind fun t109 => (if t109 = true then (laws_FnLines.j4 k l z x (i : Int) s l (l.length : Int) (i : Int) true) else (if s.toList = ([] : List UInt8) then (laws_FnLines.j4 k l z x (i : Int) s l (l.length : Int) (i : Int) false) else (if 0 ≤ (wrap64 ((s.size : Int) - 1)) then (if (wrap64 ((s.size : Int) - 1)) < (s.size : Int) then (laws_FnLines.j4 k l z x (i : Int) s l (l.length : Int) (i : Int) ((bt s (wrap64 ((s.size : Int) - 1))) == 13)) else none) else none)))) (fun k => ?_) ?_
    · simp only [laws_FnLines.l0]
      rw [if_pos (by omega), if_pos (by omega), if_pos (by omega), rdOf_nat _ _ _ hlt, hse]
    · refine Ev.bind (holds_ends s 10 (by omega)) ?_
      refine Ev.ite (fun _ => stop) (fun hno => ?_)
      have h10 : (10 : Int) ∉ ns s := by
        intro hm
        refine hno ?_
        rw [List.any_eq_true]
        exact ⟨10, hm, by decide⟩
      refine Ev.ite (fun he => go ⟨h10, fun h0 => ?_⟩) (fun he => ?_)
      · have : s = (⟨#[]⟩ : ByteArray) := (toList_eq_iff s ⟨#[]⟩).1 (by rw [emp_toList]; exact he)
        rw [this] at h0
        exact absurd h0 (by decide)
      · have hs0 : 1 ≤ s.size := by
          rcases Nat.eq_zero_or_pos s.size with h | h
          · exfalso
            refine he ?_
            have : s = (⟨#[]⟩ : ByteArray) := ns_inj (by rw [List.eq_nil_of_length_eq_zero (show (ns s).length = 0 by rw [ns_length]; exact h)]; rfl)
            rw [this]; exact emp_toList
          · exact h
        have hw : wrap64 ((s.size : Int) - 1) = ((s.size - 1 : Nat) : Int) := by rw [wrap_sub (by omega) (by omega)]; omega
        rw [hw]
        refine Ev.if_true (by omega) (Ev.if_true (by omega) ?_)
        rw [bt_ns]
        by_cases h13 : (ns s).getD (s.size - 1) 0 = 13
        · rw [h13]; exact stop
        · rw [beq_eq_false_iff_ne.2 h13]
          exact go ⟨h10, fun _ => h13⟩
theorem FnLines : laws_FnLines.Pure := by
  intro l z hl hz hz2 hwf
  refine Ev.rounds ?_
  simp only [laws_FnLines.f]
  have out : Ev (fun k => laws_FnLines.j0 k l z true) true := Ev.step (f := fun _ => some true) (fun k => by simp only [laws_FnLines.j0]; rw [if_pos trivial]) (Ev.now _)
  have out2 : Ev (fun k => laws_FnLines.j2 k l z true) true := Ev.step (f := fun _ => some true) (fun k => by simp only [laws_FnLines.j2]; rw [if_pos trivial]) (Ev.now _)
  refine Ev.bind (fits6_ends l) ?_
  refine Ev.ite (fun hf => ?_) (fun _ => out)
  obtain ⟨hlen, hsz⟩ := fits6_mem hf
  by_cases hzl : (z.length : Int) > 2147483647
  · rw [decide_eq_true hzl]; exact out
  rw [decide_eq_false hzl]
  have hnl : impl_NextLine.f (⟨#[97, 13, 10, 98]⟩ : ByteArray) = some (⟨#[97]⟩, ⟨#[98]⟩, true) := by
    obtain ⟨x', h1, h2⟩ := next_line (⟨#[97]⟩ : ByteArray) true [98] (⟨#[97, 13, 10, 98]⟩ : ByteArray) ⟨by decide, fun _ => by decide⟩ (by decide) (by decide)
    rw [h1, show x' = (⟨#[98]⟩ : ByteArray) from ns_inj (by rw [h2]; decide)]
  refine Ev.step (f := fun k => laws_FnLines.j1 k l z false) (fun k => ?_) ?_
  · simp only [laws_FnLines.j0]
    rw [if_neg (by simp), hnl, Option.bind_some, if_pos rfl, if_pos (by decide +kernel)]
    rw [show (((⟨#[97]⟩ : ByteArray), (⟨#[98]⟩ : ByteArray), true).2.1.toList != ([98] : List UInt8)) = false by decide +kernel]
  refine Ev.step (f := fun k => if (l.length : Int) > 20 then (laws_FnLines.j2 k l z true) else ((laws_short.f k l).bind fun t107 => (laws_FnLines.j2 k l z (!t107)))) (fun k => by simp only [laws_FnLines.j1]; rw [if_neg (by simp)]) ?_
  refine Ev.ite (fun _ => out2) (fun h20 => ?_)
  refine Ev.bind (short_ends l (by omega)) ?_
  cases hsh : areShort l with
  | false => exact out2
  | true =>
    obtain ⟨_, hss⟩ := areShort_mem hsh
    refine Ev.step (f := fun k => laws_FnLines.l0 k l z (⟨#[]⟩ : ByteArray) l (l.length : Int) ((0 : Nat) : Int)) (fun k => by simp only [laws_FnLines.j2]; rw [if_neg (by simp)]; rfl) ?_
    exact build l z (by omega) hss l.length 0 (⟨#[]⟩ : ByteArray) [] (by omega) (by simp) (fun p hp => by cases hp) rfl
end Go.Proofs.YtdfeojkombmiaaaDoor.Pure
