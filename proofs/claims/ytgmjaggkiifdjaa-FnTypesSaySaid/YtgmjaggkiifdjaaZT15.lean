/- Texts of this claim, one behind the other (merged by wip/prune.py of this repo, without what the proof does not use): PureFnTypesSay. -/
import Derived.Test.YtgmjaggkiifdjaaZT7
import Derived.Test.YtgmjaggkiifdjaaZT11
import Derived.Test.YtgmjaggkiifdjaaZT13
import Derived.Test.YtgmjaggkiifdjaaZT14
set_option linter.unusedVariables false
set_option linter.unusedSimpArgs false
namespace Go.Proofs.Ytgmjaggkiifdjaa.Pure
open Go.RowKit Go.Proofs.Ytgmjaggkiifdjaa.QA Go.Proofs.YtgmjaggkiifdjaaW.PrintWords Go.Proofs.YtgmjaggkiifdjaaW.PrintLast Go.Proofs.Ytgmjaggkiifdjaa.Base Go.Proofs.Ytgmjaggkiifdjaa.Given Go.Proofs.Ytgmjaggkiifdjaa.Srt
abbrev Ia := S49
def toSa (x : Ia) : Sa := ⟨x.f0, x.f1, x.f2, x.f3, x.f4⟩
theorem rdIa_nat (l : List Ia) (i : Nat) (h : i < l.length) : rd_T49 l (i : Int) = l[i] := by
  show l.getD i z49 = l[i]
  rw [List.getD_eq_getElem?_getD, List.getElem?_eq_getElem h]; rfl
theorem sorted_says (l : List Ia) (r : List Sa) (h : sortSp [] (l.map toSa) = some r) : sorted26 l = r.map fun x => to26 (toZ x) := by
  unfold sorted26
  have := sort_says (l.map toSa) r h
  rw [List.map_map] at this
  rw [show l.map to75 = l.map (toZ ∘ toSa) from rfl, this, List.map_map]
  rfl
theorem l1_ends (r : List Sa) (hr : r.length ≤ 1000000) (d : Nat) : ∀ i : Nat, i + d = r.length → Ev (fun k => laws_FnTypesSay.l1 k r (r.map fun x => to26 (toZ x)) ((r.map fun x => to26 (toZ x)).length : Int) (i : Int)) true := by
  have e1 : (r.map fun x => to26 (toZ x)).length = r.length := List.length_map ..
  induction d with
  | zero =>
    intro i hi
    have z : ¬ (i : Int) < ((r.map fun x => to26 (toZ x)).length : Int) := by omega
    exact Ev.step (f := fun _ => some true) (fun k => by rw [laws_FnTypesSay.l1, if_neg z]) (Ev.now _)
  | succ d ih =>
    intro i hi
    have hlt : i < r.length := by omega
    have z1 : (i : Int) < ((r.map fun x => to26 (toZ x)).length : Int) := by omega
    have z2 : (0 : Int) ≤ (i : Int) := by omega
    have z3 : (i : Int) < (r.length : Int) := by omega
    have r0 : rd_T49 (r.map fun x => to26 (toZ x)) (i : Int) = to26 (toZ r[i]) := by rw [rdIa_nat _ _ (by omega), List.getElem_map]
    have r1 : rd_T50 r (i : Int) = r[i] := rdSa_nat _ _ hlt
    have hw := Lib.hid (show wrap64 ((i : Int) + 1) = ((i + 1 : Nat) : Int) by rw [wrap_add (by omega) (by omega)]; rfl)
    refine Ev.step (f := fun k => laws_FnTypesSay.l1 k r (r.map fun x => to26 (toZ x)) ((r.map fun x => to26 (toZ x)).length : Int) ((i + 1 : Nat) : Int)) (fun k => ?_) (ih (i + 1) (by omega))
    rw [laws_FnTypesSay.l1, if_pos z1, if_pos z2, if_pos z1, if_pos z3, r0, r1, hw.out]
    obtain ⟨x, hx⟩ : ∃ x, r[i] = x := ⟨_, rfl⟩
    rw [hx]
    refine if_neg ?_
    simp [to26, toZ]
theorem l0_ends (l : List Ia) (hl : l.length ≤ 30) (d : Nat) : ∀ i : Nat, i + d = l.length → (∀ x ∈ l.take i, 0 ≤ x.f1 ∧ x.f1 ≤ 1000) → Ev (fun k => laws_FnTypesSay.l0 k l ((l.take i).map toSa) l (l.length : Int) (i : Int)) true := by
  induction d with
  | zero =>
    intro i hi hq
    have z : ¬ (i : Int) < (l.length : Int) := by omega
    rw [List.take_of_length_le (by omega)] at hq ⊢
    have hs : spec_SortAccepted.f (l.map toSa) = some ((sortSp [] (l.map toSa)).getD [], if (sortSp [] (l.map toSa)).isSome = true then 1 else 2) := if_pos (by rw [List.length_map]; omega)
    refine Ev.step (f := fun k => (spec_SortAccepted.f (l.map toSa)).bind fun bt267 => (if bt267.2 = 1 then ((impl_SortAccepted.f k l).bind fun t271 => (if (t271.length : Int) = (bt267.1.length : Int) then (laws_FnTypesSay.l1 k bt267.1 t271 (t271.length : Int) 0) else (some false))) else (some true))) (fun k => by rw [laws_FnTypesSay.l0, if_neg z]) (Ev.call hs ?_)
    cases hr : sortSp [] (l.map toSa) with
    | none => exact Ev.if_false (by simp) (Ev.now _)
    | some r =>
      have hsr := sorted_says l r hr
      have hle := sort_ends l (by omega) hq
      rw [hsr] at hle
      have hlen : r.length = l.length := by
        have := congrArg List.length hsr
        rw [List.length_map] at this
        rw [← this]
        unfold sorted26
        rw [List.length_map, sortS_length, List.length_map]
      refine Ev.if_true (by simp) (Ev.bind hle (Ev.if_true ?_ ?_))
      · rw [List.length_map]; rfl
      · exact l1_ends r (by omega) r.length 0 (by omega)
  | succ d ih =>
    intro i hi hq
    have hlt : i < l.length := by omega
    have z1 : (i : Int) < (l.length : Int) := by omega
    have z2 : (0 : Int) ≤ (i : Int) := by omega
    have z3 : ((l.take i).map toSa).length < 2513169434916 := by rw [List.length_map, List.length_take]; omega
    have r0 : rd_T49 l (i : Int) = l[i] := rdIa_nat _ _ hlt
    have hw := Lib.hid (show wrap64 ((i : Int) + 1) = ((i + 1 : Nat) : Int) by rw [wrap_add (by omega) (by omega)]; rfl)
    have ht : (l.take (i + 1)).map toSa = (l.take i).map toSa ++ [toSa l[i]] := by rw [List.take_succ_eq_append_getElem hlt, List.map_append]; rfl
    refine Ev.step (f := fun k => (laws_short.f k (([(l[i]).f0, (l[i]).f4] : List ByteArray))).bind fun t263 => (if t263 = true then (if (l[i]).f1 < 0 then (some true) else (if (l[i]).f1 > 1000 then (some true) else (laws_FnTypesSay.l0 k l ((l.take (i + 1)).map toSa) l (l.length : Int) ((i + 1 : Nat) : Int)))) else (some true))) (fun k => ?_) (Ev.bind (short_ends [(l[i]).f0, (l[i]).f4] (by simp)) (Ev.ite (fun _ => Ev.ite (fun _ => Ev.now _) (fun h0 => Ev.ite (fun _ => Ev.now _) (fun h1 => ih (i + 1) (by omega) ?_))) (fun _ => Ev.now _)))
    · rw [laws_FnTypesSay.l0, if_pos z1, if_pos z2, if_pos z1, r0]
      simp only [if_pos z3, hw.out, ht]
      rfl
    · rw [List.take_succ_eq_append_getElem hlt]
      intro x hx
      rcases List.mem_append.1 hx with g | g
      · exact hq x g
      · rw [List.mem_singleton] at g
        rw [g]
        exact ⟨by omega, by omega⟩
theorem j3_ends (l : List Ia) (hl : l.length ≤ 30) : Ev (fun k => laws_FnTypesSay.j3 k l) true :=
  Ev.step (f := fun k => laws_FnTypesSay.l0 k l ([] : List Sa) l (l.length : Int) 0) (fun k => by rw [laws_FnTypesSay.j3]) (l0_ends l hl l.length 0 (by omega) (by simp))
theorem j2_ends (x0 x1 x2 : ByteArray) (l : List Ia) (hl : l.length ≤ 30) (h0 : x0.size ≤ 200) (h1 : x1.size ≤ 200) (h2 : x2.size ≤ 200) : Ev (fun k => laws_FnTypesSay.j2 k x0 x1 x2 l false) true := by
  obtain ⟨r, hr, hc⟩ := type_ends x0 x1 x2 (by omega) (by omega) (by omega)
  refine Ev.step (f := fun k => (spec_AcceptsType.f k x0 x1 x2).bind fun t255 => (if t255 = 2 then (laws_FnTypesSay.j3 k l) else ((impl_AcceptsType.f k x0 x1 x2).bind fun bt256 => (if bt256.2 = true then (if (bt256.1 != (t255 == 1)) = true then (some false) else (laws_FnTypesSay.j3 k l)) else (some false))))) (fun k => by rw [laws_FnTypesSay.j2, if_neg (by simp)]) (Ev.bind hr ?_)
  by_cases g : r = 2
  · exact Ev.if_true g (j3_ends l hl)
  · obtain ⟨b, hb, e⟩ := hc.resolve_left g
    refine Ev.if_false g (Ev.bind hb (Ev.if_true rfl (Ev.if_false ?_ (j3_ends l hl))))
    rw [e]; simp
theorem FnTypesSay : laws_FnTypesSay.Pure := by
  intro a0 a1 a2 l3 w0 w1 w2 w3
  refine Ev.rounds ?_
  simp only [laws_FnTypesSay.f]
  have s0 : Ev (fun k => laws_FnTypesSay.j0 k a0 a1 a2 l3 true) true := Ev.step (f := fun _ => some true) (fun k => by rw [laws_FnTypesSay.j0, if_pos rfl]) (Ev.now _)
  refine Ev.ite (fun _ => s0) (fun _ => Ev.ite (fun _ => s0) (fun _ => Ev.ite (fun _ => s0) (fun _ => ?_)))
  obtain ⟨fb, hfb⟩ := fits7_ends l3
  refine Ev.bind hfb ?_
  cases fb with
  | false => exact s0
  | true =>
    obtain ⟨r, hr, hc⟩ := type_ends (⟨#[97, 47, 42]⟩ : ByteArray) (⟨#[97, 47, 98]⟩ : ByteArray) (⟨#[]⟩ : ByteArray) (by decide) (by decide) (by decide)
    have hab : Ev (fun k => impl_AcceptsType.f k (⟨#[97, 47, 42]⟩ : ByteArray) (⟨#[97, 47, 98]⟩ : ByteArray) (⟨#[]⟩ : ByteArray)) (true, true) :=
      Ev.of (impl_AcceptsType.mono _ _ _) (k := 10) (by decide +kernel)
    refine Ev.step (f := fun k => (impl_AcceptsType.f k (⟨#[97, 47, 42]⟩ : ByteArray) (⟨#[97, 47, 98]⟩ : ByteArray) (⟨#[]⟩ : ByteArray)).bind fun bt246 => (if bt246.1 = true then (laws_FnTypesSay.j1 k a0 a1 a2 l3 (!bt246.2)) else (laws_FnTypesSay.j1 k a0 a1 a2 l3 true))) (fun k => by rw [show (!true) = false from rfl, laws_FnTypesSay.j0, if_neg (by simp)]) (Ev.bind hab (Ev.if_true rfl ?_))
    have s2 : Ev (fun k => laws_FnTypesSay.j2 k a0 a1 a2 l3 true) true := Ev.step (f := fun _ => some true) (fun k => by rw [laws_FnTypesSay.j2, if_pos rfl]) (Ev.now _)
    refine Ev.step (f := fun k => (laws_short.f k (([a0, a1, a2] : List ByteArray))).bind fun t251 => (if t251 = true then (if (l3.length : Int) > 30 then (laws_FnTypesSay.j2 k a0 a1 a2 l3 true) else ((laws_holds.f k a1 47).bind fun t252 => (if t252 = true then ((laws_holds.f k a1 9).bind fun t253 => (if t253 = true then (laws_FnTypesSay.j2 k a0 a1 a2 l3 true) else ((laws_holds.f k a2 9).bind fun t254 => (laws_FnTypesSay.j2 k a0 a1 a2 l3 t254)))) else (laws_FnTypesSay.j2 k a0 a1 a2 l3 true)))) else (laws_FnTypesSay.j2 k a0 a1 a2 l3 true))) (fun k => by rw [show (!(true, true).2) = false from rfl, laws_FnTypesSay.j1, if_neg (by simp)]) ?_
    refine Ev.bind (short_ends [a0, a1, a2] (by simp)) (Ev.ite (fun hs => ?_) (fun _ => s2))
    obtain ⟨_, hm⟩ := areShort_mem hs
    have h0 := hm a0 (by simp)
    have h1 := hm a1 (by simp)
    have h2 := hm a2 (by simp)
    refine Ev.ite (fun _ => s2) (fun h30 => Ev.bind (holds_ends a1 47 (by omega)) (Ev.ite (fun _ => Ev.bind (holds_ends a1 9 (by omega)) (Ev.ite (fun _ => s2) (fun _ => Ev.bind (holds_ends a2 9 (by omega)) ?_))) (fun _ => s2)))
    cases (ns a2).any fun x => decide (x = 9) with
    | true => exact s2
    | false => exact j2_ends a0 a1 a2 l3 (by omega) h0 h1 h2
end Go.Proofs.Ytgmjaggkiifdjaa.Pure
