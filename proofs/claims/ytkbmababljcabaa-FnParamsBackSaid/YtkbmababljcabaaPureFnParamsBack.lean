/- The law FnParamsBack answers true at every list of parameters, signs for quoting and bound: what is written is read. No condition beyond the row's own. -/
import Derived.Test.YtkbmababljcabaaPbN
import Derived.Test.YtkbmababljcabaaPbS
import Derived.Test.YtkbmababljcabaaLParseB
set_option linter.unusedVariables false
namespace Go.Proofs.Ytkbmababljcabaa.Pure
open Go.RowKit Go.Proofs.Ytkbmababljcabaa.QA Go.Proofs.YtkbmababljcabaaW.PrintWords Go.Proofs.YtkbmababljcabaaW.PrintLast Go.Proofs.YtkbmababljcabaaW.PrintMore Go.Proofs.Ytkbmababljcabaa.Base Go.Proofs.Ytkbmababljcabaa.Given Go.Proofs.Ytkbmababljcabaa.Gv Go.Proofs.Ytkbmababljcabaa.Par

section
variable (l : List Pr) (h : PL l)
include h
theorem lastN (x2 : Int) (hx : 0 ≤ x2 ∧ x2 ≤ 20) : Ev (fun k => laws_FnParamsBackN.l0 k l x2 l (l.length : Int) (l.length : Int)) true := by
  have hf := h.few
  obtain ⟨s, g1, n1, z1⟩ := givenQ_ends [] l h
  have p1 := params_ends [] l h s n1 z1 (-1) (.inl rfl)
  have p2 := params_ends [] l h s n1 z1 x2 (.inr hx)
  rw [if_pos (by decide)] at p1
  rw [if_neg (by omega)] at p2
  have hmn : mn x2 (l.length : Int) = ((min x2.toNat l.length : Nat) : Int) := by unfold mn; split <;> omega
  have htk : l.take x2.toNat = l.take (min x2.toNat l.length) := by rw [List.take_eq_take_iff]; omega
  refine Ev.step (f := fun k => (laws_given.f k l ([] : List Int)).bind fun t329 => ((impl_Params.f k t329 (-1)).bind fun t330 => ((impl_Params.f k t329 x2).bind fun t333 => (if (t330.length : Int) = (l.length : Int) then (if 0 ≤ (mn x2 (t330.length : Int)) then (if (mn x2 (t330.length : Int)) ≤ (t330.length : Int) then ((laws_samePairs.f k t333 (t330.take ((mn x2 (t330.length : Int)) : Int).toNat)).bind fun t340 => (some t340)) else (none)) else (none)) else (some false))))) (fun k => by simp only [laws_FnParamsBackN.l0]; rw [if_neg (by omega)]) ?_
  refine Ev.bind g1 (Ev.bind p1 (Ev.bind p2 (Ev.if_true rfl ?_)))
  rw [hmn]
  refine Ev.if_true (by omega) (Ev.if_true (by omega) ?_)
  rw [Int.toNat_natCast, htk]
  exact Ev.bind (same_self _ (by rw [List.length_take]; omega)) (Ev.now _)
theorem loopN (x2 : Int) (hx : 0 ≤ x2 ∧ x2 ≤ 20) : ∀ d i : Nat, i + d = l.length → Ev (fun k => laws_FnParamsBackN.l0 k l x2 l (l.length : Int) (i : Int)) true := by
  have hf := h.few
  intro d
  induction d with
  | zero =>
    intro i hi
    obtain rfl : i = l.length := by omega
    exact lastN l h x2 hx
  | succ d ih =>
    intro i hi
    have hlt : i < l.length := by omega
    have g1 : (i : Int) < (l.length : Int) := by omega
    have g2 : (0 : Int) ≤ (i : Int) := by omega
    have hw : wrap64 ((i : Int) + 1) = ((i + 1 : Nat) : Int) := by
      rw [wrap_add (by omega) (by omega)]
      rfl
    have hk := h.word _ (List.getElem_mem hlt)
    have w0 := low_is (l[i]).f0 (by have := hk.1.2; omega)
    refine Ev.step (f := fun k => laws_FnParamsBackN.l0 k l x2 l (l.length : Int) ((i + 1 : Nat) : Int)) (fun k => ?_) (ih (i + 1) (by omega))
    simp only [laws_FnParamsBackN.l0, hw, rdP l i hlt, w0, Option.bind_some]
    rw [if_pos g1, if_pos g2, if_pos g1, if_neg (by omega), if_pos g1, if_pos trivial, if_pos trivial]
end
theorem FnParamsBackN : laws_FnParamsBackN.Pure := by
  intro l z x2 h0 h1 h2 h3 h4
  refine Ev.rounds ?_
  simp only [laws_FnParamsBackN.f]
  have out0 : Ev (fun k => laws_FnParamsBackN.j0 k l z x2 true) true := Ev.step (f := fun _ => some true) (fun k => by simp only [laws_FnParamsBackN.j0]; rw [if_pos trivial]) (Ev.now _)
  have out2 : Ev (fun k => laws_FnParamsBackN.j2 k l z x2 true) true := Ev.step (f := fun _ => some true) (fun k => by simp only [laws_FnParamsBackN.j2]; rw [if_pos trivial]) (Ev.now _)
  obtain ⟨f4, e4, m4⟩ := fits1_ends l
  refine Ev.bind e4 (Ev.ite (fun hf4 => ?_) (fun _ => out0))
  by_cases hz : (z.length : Int) > 2147483647
  · rw [decide_eq_true hz]; exact out0
  rw [decide_eq_false hz]
  obtain ⟨p4, q4⟩ := m4 hf4
  have hab2 := params_ends [] [(⟨(⟨#[97]⟩ : ByteArray), (⟨#[98]⟩ : ByteArray)⟩ : S47)] ⟨by simp, by
      intro p hp
      rw [List.mem_singleton.1 hp]
      exact ⟨⟨by decide +kernel, by decide⟩, ⟨by decide +kernel, by decide⟩, by decide +kernel⟩, List.pairwise_singleton _ _⟩ (⟨#[59, 97, 61, 98]⟩ : ByteArray) (by decide +kernel) (by decide) (-1) (.inl rfl)
  rw [if_pos (by decide)] at hab2
  refine Ev.step (f := fun k => (impl_Params.f k (⟨#[59, 97, 61, 98]⟩ : ByteArray) (-1)).bind fun t314 => (if (t314.length : Int) = 1 then (if 0 < (t314.length : Int) then (laws_FnParamsBackN.j1 k l z x2 (!((((rd_T47 t314 0).f0).toList) == ([97] : List UInt8)) || (!((((rd_T47 t314 0).f1).toList) == ([98] : List UInt8))))) else (none)) else (laws_FnParamsBackN.j1 k l z x2 true))) (fun k => by simp only [laws_FnParamsBackN.j0]; rw [if_neg (by simp)]) ?_
  refine Ev.bind hab2 (Ev.if_true rfl (Ev.if_true (by decide) ?_))
  have hb : (!((((rd_T47 [(⟨(⟨#[97]⟩ : ByteArray), (⟨#[98]⟩ : ByteArray)⟩ : S47)] 0).f0).toList) == ([97] : List UInt8)) || (!((((rd_T47 [(⟨(⟨#[97]⟩ : ByteArray), (⟨#[98]⟩ : ByteArray)⟩ : S47)] 0).f1).toList) == ([98] : List UInt8)))) = false := by decide +kernel
  rw [hb]
  obtain ⟨b4, r4, s4⟩ := plain_ends p4 q4
  refine Ev.step (f := fun k => (laws_plainParams.f k l).bind fun t318 => (if t318 = true then (if x2 < 0 then (laws_FnParamsBackN.j2 k l z x2 true) else (laws_FnParamsBackN.j2 k l z x2 (decide (x2 > 20)))) else (laws_FnParamsBackN.j2 k l z x2 true))) (fun k => by simp only [laws_FnParamsBackN.j1]; rw [if_neg (by simp)]) ?_
  refine Ev.bind r4 (Ev.ite (fun hb4 => Ev.ite (fun _ => out2) (fun hx0 => ?_)) (fun _ => out2))
  by_cases hx : x2 > 20
  · rw [decide_eq_true hx]; exact out2
  rw [decide_eq_false hx]
  have hp := PL.of (s4 hb4)
  obtain ⟨s, g1, n1, z1⟩ := givenQ_ends z l hp
  have p1 := params_ends z l hp s n1 z1 (-1) (.inl rfl)
  rw [if_pos (by decide)] at p1
  refine Ev.step (f := fun k => (laws_given.f k l z).bind fun t319 => ((impl_Params.f k t319 (-1)).bind fun t320 => (laws_FnParamsBackN.l0 k l x2 t320 (t320.length : Int) 0))) (fun k => by simp only [laws_FnParamsBackN.j2]; rw [if_neg (by simp)]) ?_
  exact Ev.bind g1 (Ev.bind p1 (loopN l hp x2 (by omega) l.length 0 (by omega)))

section
variable (l : List Pr) (h : PL l)
include h
theorem lastS (x2 : Int) (hx : 0 ≤ x2 ∧ x2 ≤ 20) : Ev (fun k => laws_FnParamsBackS.l0 k l x2 l (l.length : Int) (l.length : Int)) true := by
  have hf := h.few
  obtain ⟨s, g1, n1, z1⟩ := givenQ_ends [] l h
  have p1 := params_ends [] l h s n1 z1 (-1) (.inl rfl)
  have p2 := params_ends [] l h s n1 z1 x2 (.inr hx)
  rw [if_pos (by decide)] at p1
  rw [if_neg (by omega)] at p2
  have hmn : mn x2 (l.length : Int) = ((min x2.toNat l.length : Nat) : Int) := by unfold mn; split <;> omega
  have htk : l.take x2.toNat = l.take (min x2.toNat l.length) := by rw [List.take_eq_take_iff]; omega
  refine Ev.step (f := fun k => (laws_given.f k l ([] : List Int)).bind fun t329 => ((impl_Params.f k t329 (-1)).bind fun t330 => ((impl_Params.f k t329 x2).bind fun t333 => (if (t330.length : Int) = (l.length : Int) then (if 0 ≤ (mn x2 (t330.length : Int)) then (if (mn x2 (t330.length : Int)) ≤ (t330.length : Int) then ((laws_samePairs.f k t333 (t330.take ((mn x2 (t330.length : Int)) : Int).toNat)).bind fun t340 => (some t340)) else (none)) else (none)) else (some false))))) (fun k => by simp only [laws_FnParamsBackS.l0]; rw [if_neg (by omega)]) ?_
  refine Ev.bind g1 (Ev.bind p1 (Ev.bind p2 (Ev.if_true rfl ?_)))
  rw [hmn]
  refine Ev.if_true (by omega) (Ev.if_true (by omega) ?_)
  rw [Int.toNat_natCast, htk]
  exact Ev.bind (same_self _ (by rw [List.length_take]; omega)) (Ev.now _)
theorem loopS (x2 : Int) (hx : 0 ≤ x2 ∧ x2 ≤ 20) : ∀ d i : Nat, i + d = l.length → Ev (fun k => laws_FnParamsBackS.l0 k l x2 l (l.length : Int) (i : Int)) true := by
  have hf := h.few
  intro d
  induction d with
  | zero =>
    intro i hi
    obtain rfl : i = l.length := by omega
    exact lastS l h x2 hx
  | succ d ih =>
    intro i hi
    have hlt : i < l.length := by omega
    have g1 : (i : Int) < (l.length : Int) := by omega
    have g2 : (0 : Int) ≤ (i : Int) := by omega
    have hw : wrap64 ((i : Int) + 1) = ((i + 1 : Nat) : Int) := by
      rw [wrap_add (by omega) (by omega)]
      rfl
    have hk := h.word _ (List.getElem_mem hlt)
    have w0 := low_is (l[i]).f0 (by have := hk.1.2; omega)
    refine Ev.step (f := fun k => laws_FnParamsBackS.l0 k l x2 l (l.length : Int) ((i + 1 : Nat) : Int)) (fun k => ?_) (ih (i + 1) (by omega))
    simp only [laws_FnParamsBackS.l0, hw, rdP l i hlt, w0, Option.bind_some]
    rw [if_pos g1, if_pos g2, if_pos g1, if_neg (by omega), if_pos g1, if_pos trivial]
end
theorem FnParamsBackS : laws_FnParamsBackS.Pure := by
  intro l z x2 h0 h1 h2 h3 h4
  refine Ev.rounds ?_
  simp only [laws_FnParamsBackS.f]
  have out0 : Ev (fun k => laws_FnParamsBackS.j0 k l z x2 true) true := Ev.step (f := fun _ => some true) (fun k => by simp only [laws_FnParamsBackS.j0]; rw [if_pos trivial]) (Ev.now _)
  have out2 : Ev (fun k => laws_FnParamsBackS.j2 k l z x2 true) true := Ev.step (f := fun _ => some true) (fun k => by simp only [laws_FnParamsBackS.j2]; rw [if_pos trivial]) (Ev.now _)
  obtain ⟨f4, e4, m4⟩ := fits1_ends l
  refine Ev.bind e4 (Ev.ite (fun hf4 => ?_) (fun _ => out0))
  by_cases hz : (z.length : Int) > 2147483647
  · rw [decide_eq_true hz]; exact out0
  rw [decide_eq_false hz]
  obtain ⟨p4, q4⟩ := m4 hf4
  have hab2 := params_ends [] [(⟨(⟨#[97]⟩ : ByteArray), (⟨#[98]⟩ : ByteArray)⟩ : S47)] ⟨by simp, by
      intro p hp
      rw [List.mem_singleton.1 hp]
      exact ⟨⟨by decide +kernel, by decide⟩, ⟨by decide +kernel, by decide⟩, by decide +kernel⟩, List.pairwise_singleton _ _⟩ (⟨#[59, 97, 61, 98]⟩ : ByteArray) (by decide +kernel) (by decide) (-1) (.inl rfl)
  rw [if_pos (by decide)] at hab2
  refine Ev.step (f := fun k => (impl_Params.f k (⟨#[59, 97, 61, 98]⟩ : ByteArray) (-1)).bind fun t314 => (if (t314.length : Int) = 1 then (if 0 < (t314.length : Int) then (laws_FnParamsBackS.j1 k l z x2 (!((((rd_T47 t314 0).f0).toList) == ([97] : List UInt8)) || (!((((rd_T47 t314 0).f1).toList) == ([98] : List UInt8))))) else (none)) else (laws_FnParamsBackS.j1 k l z x2 true))) (fun k => by simp only [laws_FnParamsBackS.j0]; rw [if_neg (by simp)]) ?_
  refine Ev.bind hab2 (Ev.if_true rfl (Ev.if_true (by decide) ?_))
  have hb : (!((((rd_T47 [(⟨(⟨#[97]⟩ : ByteArray), (⟨#[98]⟩ : ByteArray)⟩ : S47)] 0).f0).toList) == ([97] : List UInt8)) || (!((((rd_T47 [(⟨(⟨#[97]⟩ : ByteArray), (⟨#[98]⟩ : ByteArray)⟩ : S47)] 0).f1).toList) == ([98] : List UInt8)))) = false := by decide +kernel
  rw [hb]
  obtain ⟨b4, r4, s4⟩ := plain_ends p4 q4
  refine Ev.step (f := fun k => (laws_plainParams.f k l).bind fun t318 => (if t318 = true then (if x2 < 0 then (laws_FnParamsBackS.j2 k l z x2 true) else (laws_FnParamsBackS.j2 k l z x2 (decide (x2 > 20)))) else (laws_FnParamsBackS.j2 k l z x2 true))) (fun k => by simp only [laws_FnParamsBackS.j1]; rw [if_neg (by simp)]) ?_
  refine Ev.bind r4 (Ev.ite (fun hb4 => Ev.ite (fun _ => out2) (fun hx0 => ?_)) (fun _ => out2))
  by_cases hx : x2 > 20
  · rw [decide_eq_true hx]; exact out2
  rw [decide_eq_false hx]
  have hp := PL.of (s4 hb4)
  obtain ⟨s, g1, n1, z1⟩ := givenQ_ends z l hp
  have p1 := params_ends z l hp s n1 z1 (-1) (.inl rfl)
  rw [if_pos (by decide)] at p1
  refine Ev.step (f := fun k => (laws_given.f k l z).bind fun t319 => ((impl_Params.f k t319 (-1)).bind fun t320 => (laws_FnParamsBackS.l0 k l x2 t320 (t320.length : Int) 0))) (fun k => by simp only [laws_FnParamsBackS.j2]; rw [if_neg (by simp)]) ?_
  exact Ev.bind g1 (Ev.bind p1 (loopS l hp x2 (by omega) l.length 0 (by omega)))

theorem FnParamsBack.walk (a0 : Option Addr) (cap0 : Nat) (l0 : List S47) (a1 : Option Addr) (len1 cap1 : Nat) (z1 : List Int) (a2 : Int) (w : World) (w0 : Kd.C k47 w a0 l0.length l0) (y0 : l0.length ≤ cap0) (m0 : l0.length * 32 ≤ 140737488351232) (w1 : (a1 = none ∧ len1 = 0 ∧ cap1 = 0 ∧ z1 = []) ∨ ∃ x, a1 = some x ∧ len1 ≤ cap1 ∧ cap1 ≤ maxLen ∧ z1.length = cap1 ∧ (∀ i, i < z1.length → w.cell? (x.add i) = some (.int .u8 (z1.getD i 0))) ∧ ∀ n ∈ z1, (Lit.int .u8 n).wf = true) (y1 : len1 * 1 ≤ 140737488351232) (w2 : (Lit.int .i64 a2).wf = true) :
    Calls Try.prog 7 #[.slice a0 l0.length cap0, .slice a1 len1 cap1, .int .i64 a2] w fun e w' => e = .returned (.bool true) ∧ Below w.heap.size w w' := by
  obtain ⟨l1, rfl, hr1, hm1, hw1, hc1⟩ := ReadsInt.ofRowC w1
  cases a1 with
  | none =>
    obtain ⟨k, h⟩ := FnParamsBackN l0 l1 a2 m0 hm1 y1 hw1 w2
    refine (laws_FnParamsBackN.calls k _ _ l0 _ l1 a2 true w w0 y0 (Kd.C_of_reads (d := (0 : Int)) (h1 := fun _ => rfl) hr1) hc1 h).mono ?_
    rintro e w' ⟨rfl, hd⟩
    exact ⟨rfl, hd⟩
  | some b =>
    obtain ⟨k, h⟩ := FnParamsBackS l0 l1 a2 m0 hm1 y1 hw1 w2
    refine (laws_FnParamsBackS.calls k _ _ l0 b _ l1 a2 true w w0 y0 (Kd.C_of_reads (d := (0 : Int)) (h1 := fun _ => rfl) hr1) hc1 h).mono ?_
    rintro e w' ⟨rfl, hd⟩
    exact ⟨rfl, hd⟩
end Go.Proofs.Ytkbmababljcabaa.Pure
