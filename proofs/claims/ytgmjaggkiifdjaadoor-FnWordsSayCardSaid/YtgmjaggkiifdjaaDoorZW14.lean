/- Texts of this claim, one behind the other (merged by wip/prune.py of this repo, without what the proof does not use): LWords. -/
import Derived.Test.YtgmjaggkiifdjaaDoorZW4
import Derived.Test.YtgmjaggkiifdjaaDoorZW5
import Derived.Test.YtgmjaggkiifdjaaDoorZW7
import Derived.Test.YtgmjaggkiifdjaaDoorZW8
import Derived.Test.YtgmjaggkiifdjaaDoorZW9
import Derived.Test.YtgmjaggkiifdjaaDoorZW13
set_option linter.unusedVariables false
set_option linter.unusedSimpArgs false
namespace Go.Proofs.YtgmjaggkiifdjaaDoor.Given
open Go.RowKit Go.Proofs.YtgmjaggkiifdjaaDoorW.PrintWords Go.Proofs.YtgmjaggkiifdjaaDoorW.PrintLast Go.Proofs.YtgmjaggkiifdjaaDoorW.PrintMore Go.Proofs.YtgmjaggkiifdjaaDoor.Base Go.Proofs.YtgmjaggkiifdjaaDoor.Gv Go.Proofs.YtgmjaggkiifdjaaDoor.QA
theorem tlw_nil (s : ByteArray) : s.toList = ([] : List UInt8) ↔ s.size = 0 := by
  rw [Lib.toList_data, Lib.size_eq]
  exact List.length_eq_zero_iff.symm
theorem btw_get (s : ByteArray) (i : Nat) (h : i < (ns s).length) : bt s (i : Int) = (ns s)[i] := by rw [bt_ns, List.getD_eq_getElem?_getD, List.getElem?_eq_getElem h]; rfl
theorem specKey_from (a b : ByteArray) (hl : a.size = b.size) (hs : a.size ≤ 1099511627776) (d : Nat) : ∀ i : Nat, i + d = a.size → Ev (fun k => spec_SameKey.l0 k a b (a.size : Int) (i : Int)) (decide (((ns a).drop i).map o32 = ((ns b).drop i).map o32)) := by
  induction d with
  | zero =>
    intro i hi
    refine Ev.step (f := fun _ => some true) (fun k => by rw [spec_SameKey.l0, if_neg (by omega)]) (Ev.val ?_)
    rw [List.drop_eq_nil_of_le (by rw [ns_length]; omega), List.drop_eq_nil_of_le (by rw [ns_length]; omega)]; rfl
  | succ d ih =>
    intro i hi
    have h1 : i < (ns a).length := by rw [ns_length]; omega
    have h2 : i < (ns b).length := by rw [ns_length]; omega
    refine Ev.step (f := fun k => if o32 (ns a)[i] = o32 (ns b)[i] then spec_SameKey.l0 k a b (a.size : Int) ((i + 1 : Nat) : Int) else some false) (fun k => ?_) ?_
    · rw [spec_SameKey.l0, if_pos (by omega), if_pos (by omega), if_pos (by omega), if_pos (by omega), btw_get a i h1, btw_get b i h2, wrap_add (by omega) (by omega)]; rfl
    · rw [List.drop_eq_getElem_cons h1, List.drop_eq_getElem_cons h2, List.map_cons, List.map_cons]
      refine Ev.ite (fun h => ?_) (fun h => Ev.val ?_)
      · rw [h, show decide (o32 (ns b)[i] :: ((ns a).drop (i + 1)).map o32 = o32 (ns b)[i] :: ((ns b).drop (i + 1)).map o32) = decide (((ns a).drop (i + 1)).map o32 = ((ns b).drop (i + 1)).map o32) from decide_eq_decide.2 ⟨fun g => (List.cons.inj g).2, fun g => by rw [g]⟩]
        exact ih (i + 1) (by omega)
      · exact (decide_eq_false (fun g => h (List.cons.inj g).1)).symm
theorem specKey_ends (a b : ByteArray) (hs : a.size ≤ 1099511627776) : Ev (fun k => spec_SameKey.f k a b) (decide ((ns a).map o32 = (ns b).map o32)) := by
  simp only [spec_SameKey.f]
  refine Ev.ite (fun h => ?_) (fun h => Ev.val ?_)
  · have := specKey_from a b (by omega) hs a.size 0 (by omega)
    simpa using this
  · refine (decide_eq_false (fun g => h ?_)).symm
    have := congrArg List.length g
    rw [List.length_map, List.length_map, ns_length, ns_length] at this
    omega
theorem implKey_ends (a b : ByteArray) (ha : a.size ≤ 1099511627776) (hb : b.size ≤ 1099511627776) : Ev (fun k => impl_SameKey.f k a b) (decide ((ns a).map o32 = (ns b).map o32)) := by
  have h := cic_ends (ns a) (ns b) (by rw [ns_length]; omega)
  refine Ev.congr (fun k => ?_) h
  unfold impl_SameKey.f
  rw [if_pos ⟨by omega, by omega⟩]
theorem specType_ends (s : ByteArray) (hs : s.size ≤ 1099511627776) : Ev (fun k => spec_TypeAhead.f k s) (s.extract 0 (typeLen s)) := by
  have key : ∀ d i : Nat, i + d = s.size → (∀ j : Nat, j < i → bt s (j : Int) ≠ 32 ∧ bt s (j : Int) ≠ 59) → Ev (fun k => spec_TypeAhead.l0 k s (s.size : Int) (i : Int)) (s.extract 0 (typeLen s)) := by
    intro d
    induction d with
    | zero =>
      intro i hi h
      have e := typeLen_is s i (by omega) h (fun hl => by omega)
      have : s.extract 0 i = s := ns_inj (by rw [ns_extract, List.drop_zero, Nat.sub_zero, List.take_of_length_le (by rw [ns_length]; omega)])
      rw [e, this]
      exact Ev.step (f := fun _ => some s) (fun k => by rw [spec_TypeAhead.l0, if_neg (by omega)]) (Ev.now _)
    | succ d ih =>
      intro i hi h
      by_cases h32 : bt s (i : Int) = 32
      · rw [typeLen_is s i (by omega) h (fun _ => .inl h32)]
        exact Ev.step (f := fun _ => some (s.extract 0 i)) (fun k => by rw [spec_TypeAhead.l0, if_pos (by omega), if_pos (by omega), if_pos (by omega), if_pos h32, if_pos (by omega), Int.toNat_natCast]) (Ev.now _)
      · by_cases h59 : bt s (i : Int) = 59
        · rw [typeLen_is s i (by omega) h (fun _ => .inr h59)]
          exact Ev.step (f := fun _ => some (s.extract 0 i)) (fun k => by rw [spec_TypeAhead.l0, if_pos (by omega), if_pos (by omega), if_pos (by omega), if_neg h32, if_pos h59, if_pos (by omega), Int.toNat_natCast]) (Ev.now _)
        · refine Ev.step (fun k => ?_) (ih (i + 1) (by omega) (fun j hj => ?_))
          · rw [spec_TypeAhead.l0, if_pos (by omega), if_pos (by omega), if_pos (by omega), if_neg h32, if_neg h59, wrap_add (by omega) (by omega)]; rfl
          · rcases Nat.eq_or_lt_of_le (Nat.le_of_lt_succ hj) with e | e
            · rw [e]; exact ⟨h32, h59⟩
            · exact h j e
  exact key s.size 0 (by omega) (fun j hj => by omega)
theorem spec_true_from (s t : ByteArray) (hl : s.size = t.size) (hs : s.size ≤ 1099511627776) (d : Nat) : ∀ i : Nat, i + d = s.size → Ev (fun k => spec_same.l0 k s t (s.size : Int) (i : Int)) (decide (((ns s).drop i).map lo = ((ns t).drop i).map lo)) := by
  induction d with
  | zero =>
    intro i hi
    refine Ev.step (f := fun _ => some true) (fun k => by rw [spec_same.l0, if_neg (by omega)]) (Ev.val ?_)
    rw [List.drop_eq_nil_of_le (by rw [ns_length]; omega), List.drop_eq_nil_of_le (by rw [ns_length]; omega)]; rfl
  | succ d ih =>
    intro i hi
    have h1 : i < (ns s).length := by rw [ns_length]; omega
    have h2 : i < (ns t).length := by rw [ns_length]; omega
    have r1 := ns_range s _ (List.getElem_mem h1)
    have r2 := ns_range t _ (List.getElem_mem h2)
    refine Ev.step (f := fun k => if lo (ns s)[i] = lo (ns t)[i] then spec_same.l0 k s t (s.size : Int) ((i + 1 : Nat) : Int) else some false) (fun k => ?_) ?_
    · rw [spec_same.l0, if_pos (by omega), if_pos (by omega), if_pos (by omega), btw_get s i h1, btw_get t i h2, fold_lo r1, Option.bind_some, if_pos (by omega), fold_lo r2, Option.bind_some, wrap_add (by omega) (by omega)]; rfl
    · rw [List.drop_eq_getElem_cons h1, List.drop_eq_getElem_cons h2, List.map_cons, List.map_cons]
      refine Ev.ite (fun h => ?_) (fun h => Ev.val ?_)
      · rw [h, show decide (lo (ns t)[i] :: ((ns s).drop (i + 1)).map lo = lo (ns t)[i] :: ((ns t).drop (i + 1)).map lo) = decide (((ns s).drop (i + 1)).map lo = ((ns t).drop (i + 1)).map lo) from decide_eq_decide.2 ⟨fun g => (List.cons.inj g).2, fun g => by rw [g]⟩]
        exact ih (i + 1) (by omega)
      · exact (decide_eq_false (fun g => h (List.cons.inj g).1)).symm
theorem specTrue_ends (s : ByteArray) (hs : s.size ≤ 1099511627776) : Ev (fun k => spec_TrueText.f k s) (isTrue s) := by
  simp only [spec_TrueText.f]
  refine Ev.bind (a := isTrue s) ?_ (Ev.now _)
  have ht : (ns (⟨#[116, 114, 117, 101]⟩ : ByteArray)).map lo = [116, 114, 117, 101] := by decide
  unfold isTrue
  rw [← ht]
  simp only [spec_same.f]
  refine Ev.ite (fun h => ?_) (fun h => Ev.val ?_)
  · have := spec_true_from s (⟨#[116, 114, 117, 101]⟩ : ByteArray) (by omega) hs s.size 0 (by omega)
    simpa using this
  · refine (decide_eq_false (fun g => h ?_)).symm
    have := congrArg List.length g
    rw [List.length_map, List.length_map, ns_length, ns_length] at this
    omega
theorem idxw_none {l : List Int} {c : Int} : idx l c = -1 ↔ c ∉ l := by
  induction l with
  | nil => simp [idx]
  | cons x l ih =>
    have hr := idx_ge l c
    rw [idx, List.mem_cons]
    by_cases h : x = c
    · rw [if_pos h]; simp [h]
    · rw [if_neg h]
      by_cases g : idx l c = -1
      · rw [if_pos g]; simp [Ne.symm h, ih.1 g]
      · rw [if_neg g]
        refine ⟨fun e => by omega, fun e => absurd (ih.2 (fun m => e (.inr m))) g⟩
def PortR (s : ByteArray) (b : Bool) (r : ByteArray × Int) : Prop := r.2 = 2 ∨ (r.2 = 1 ∧ r.1 = withPort s b)
theorem port_from (s : ByteArray) (b : Bool) (hs : s.size ≤ 1099511627776) (d : Nat) : ∀ (i n : Nat), i + d = s.size → n ≤ i → (n = 0 ↔ (58 : Int) ∉ (ns s).take i) → (93 : Int) ∉ (ns s).take i →
    ∃ r, Ev (fun k => spec_WithPort.l0 k s b (n : Int) (s.size : Int) (i : Int)) r ∧ PortR s b r := by
  have hl := ns_length s
  have j1t : ∀ n : Int, Ev (fun k => spec_WithPort.j1 k s b n true) ((⟨#[]⟩ : ByteArray), 2) := fun n => Ev.step (f := fun _ => some ((⟨#[]⟩ : ByteArray), 2)) (fun k => by rw [spec_WithPort.j1, if_pos rfl]) (Ev.now _)
  induction d with
  | zero =>
    intro i n hi hn h58 h93
    rw [List.take_of_length_le (by omega)] at h58 h93
    have l0 : ∀ {v : Bool} {r}, (s.size = 0 ∨ 1 < n → v = true) → (s.size ≠ 0 → n = 1 → v = (bt s ((s.size - 1 : Nat) : Int) == 58)) → (s.size ≠ 0 → n = 0 → v = false) → Ev (fun k => spec_WithPort.j1 k s b (n : Int) v) r → Ev (fun k => spec_WithPort.l0 k s b (n : Int) (s.size : Int) (i : Int)) r := by
      intro v r v1 v2 v3 h
      refine Ev.step (fun k => ?_) h
      rw [spec_WithPort.l0, if_neg (by omega)]
      by_cases h0 : s.size = 0
      · rw [if_pos ((tlw_nil s).2 h0), v1 (.inl h0)]
      · rw [if_neg (fun g => h0 ((tlw_nil s).1 g))]
        by_cases h1 : 1 < n
        · rw [if_pos (by omega), v1 (.inr h1)]
        · rw [if_neg (by omega)]
          by_cases h2 : n = 1
          · have w1 : wrap64 ((s.size : Int) - 1) = ((s.size - 1 : Nat) : Int) := by unfold wrap64; omega
            rw [if_pos (by omega), w1, if_pos (by omega), if_pos (by omega), v2 h0 h2]
          · rw [if_neg (by omega), v3 h0 (by omega)]
    have i93 : idx (ns s) 93 = -1 := idxw_none.2 h93
    by_cases h0 : s.size = 0 ∨ 1 < n
    · exact ⟨_, l0 (v := true) (fun _ => rfl) (fun g g' => by omega) (fun g g' => by omega) (j1t _), .inl rfl⟩
    · have h0s : s.size ≠ 0 := fun g => h0 (.inl g)
      by_cases h1 : n = 1
      · have i58 : ¬ idx (ns s) 58 = -1 := fun g => by
          have := h58.2 (idxw_none.1 g); omega
        have hge := idx_ge (ns s) 58
        cases hlast : (bt s ((s.size - 1 : Nat) : Int) == 58) with
        | true => exact ⟨_, l0 (v := true) (fun g => absurd g h0) (fun _ _ => hlast.symm) (fun _ g => by omega) (j1t _), .inl rfl⟩
        | false =>
          refine ⟨(s, 1), l0 (v := false) (fun g => absurd g h0) (fun _ _ => hlast.symm) (fun _ g => rfl) (Ev.step (f := fun _ => some (s, 1)) (fun k => by rw [spec_WithPort.j1, if_neg (by simp), if_pos (by omega)]) (Ev.now _)), .inr ⟨rfl, ?_⟩⟩
          unfold withPort
          rw [if_pos ⟨by omega, by omega⟩]
      · have hn0 : n = 0 := by omega
        have i58 : idx (ns s) 58 = -1 := idxw_none.2 (h58.1 hn0)
        refine ⟨(withPort s b, 1), l0 (v := false) (fun g => absurd g h0) (fun _ g => absurd g h1) (fun _ _ => rfl) (Ev.step (f := fun _ => some (withPort s b, 1)) (fun k => ?_) (Ev.now _)), .inr ⟨rfl, rfl⟩⟩
        have hwp : withPort s b = s ++ if b then p443 else p80 := by unfold withPort; rw [if_neg (by omega)]
        rw [hwp, spec_WithPort.j1, if_neg (by simp), if_neg (by omega)]
        cases b with
        | true => rw [if_pos rfl, if_pos (by omega)]; rfl
        | false => rw [if_neg (by simp), if_pos (by omega)]; rfl
  | succ d ih =>
    intro i n hi hn h58 h93
    have hlt : i < (ns s).length := by omega
    have hbt := btw_get s i hlt
    have htk : (ns s).take (i + 1) = (ns s).take i ++ [(ns s)[i]] := by rw [List.take_succ_eq_append_getElem hlt]
    obtain ⟨c, hc⟩ : ∃ c, (ns s)[i] = c := ⟨_, rfl⟩
    rw [hc] at hbt htk
    have hw := wrap_add (i := (i : Int)) (by omega) (by omega)
    have hwn := wrap_add (i := (n : Int)) (by omega) (by omega)
    by_cases h91 : c = 91
    · refine ⟨_, Ev.step (f := fun _ => some ((⟨#[]⟩ : ByteArray), 2)) (fun k => ?_) (Ev.now _), .inl rfl⟩
      rw [spec_WithPort.l0, if_pos (by omega), if_pos (by omega), if_pos (by omega), hbt, if_neg (by omega), if_pos h91]
    · by_cases h93c : c = 93
      · refine ⟨_, Ev.step (f := fun _ => some ((⟨#[]⟩ : ByteArray), 2)) (fun k => ?_) (Ev.now _), .inl rfl⟩
        rw [spec_WithPort.l0, if_pos (by omega), if_pos (by omega), if_pos (by omega), hbt, if_neg (by omega), if_neg h91, if_pos h93c]
      · have h93' : (93 : Int) ∉ (ns s).take (i + 1) := by
          rw [htk, List.mem_append, List.mem_singleton]
          exact fun g => g.elim h93 (fun g => h93c g.symm)
        by_cases h58c : c = 58
        · obtain ⟨r, hr, hR⟩ := ih (i + 1) (n + 1) (by omega) (by omega) ⟨fun g => by omega, fun g => absurd (by rw [htk, h58c]; simp) g⟩ h93'
          refine ⟨r, Ev.step (fun k => ?_) hr, hR⟩
          rw [spec_WithPort.l0, if_pos (by omega), if_pos (by omega), if_pos (by omega), hbt, if_pos h58c, if_neg h91, if_neg h93c, hw, hwn]; rfl
        · obtain ⟨r, hr, hR⟩ := ih (i + 1) n (by omega) (by omega) (by rw [htk, List.mem_append, List.mem_singleton, not_or]; exact ⟨fun g => ⟨h58.1 g, fun e => h58c e.symm⟩, fun g => h58.2 g.1⟩) h93'
          refine ⟨r, Ev.step (fun k => ?_) hr, hR⟩
          rw [spec_WithPort.l0, if_pos (by omega), if_pos (by omega), if_pos (by omega), hbt, if_neg h58c, if_neg h91, if_neg h93c, hw]; rfl
theorem specPort_ends (s : ByteArray) (b : Bool) (hs : s.size ≤ 1099511627776) : ∃ r, Ev (fun k => spec_WithPort.f k s b) r ∧ PortR s b r := by
  have h := port_from s b hs s.size 0 0 (by omega) (by omega) (by simp) (by simp)
  exact h
theorem ite_ex {c : Prop} [Decidable c] {x y : Option ByteArray} {Q : ByteArray → Prop} (h1 : c → ∃ t, x = some t ∧ Q t) (h2 : ¬ c → ∃ t, y = some t ∧ Q t) : ∃ t, (if c then x else y) = some t ∧ Q t := by
  by_cases h : c
  · rw [if_pos h]; exact h1 h
  · rw [if_neg h]; exact h2 h
theorem specStat_ends (n : Int) : ∃ r, spec_StatusMessage.f n = some r ∧ (r.2 = 2 ∨ (r.2 = 1 ∧ r.1 = statMsg n)) := by
  have hr : ∃ t, spec_reason.f n = some t ∧ (t.size = 0 ∨ t = statMsg n) := by
    unfold spec_reason.f
    repeat (refine ite_ex (fun h => ?_) (fun _ => ?_); · subst h; exact ⟨_, rfl, .inr (by decide +kernel)⟩)
    exact ⟨_, rfl, .inl rfl⟩
  obtain ⟨t, ht, hc⟩ := hr
  unfold spec_StatusMessage.f
  rw [ht, Option.bind_some]
  by_cases h0 : t.size = 0
  · rw [if_pos ((tlw_nil t).2 h0)]; exact ⟨_, rfl, .inl rfl⟩
  · rw [if_neg (fun g => h0 ((tlw_nil t).1 g))]; exact ⟨_, rfl, .inr ⟨rfl, hc.resolve_left h0⟩⟩
end Go.Proofs.YtgmjaggkiifdjaaDoor.Given
