/- Texts of this claim, one behind the other (merged by wip/prune.py of this repo, without what the proof does not use): LTrue. -/
import Derived.Test.YtgmjaggkiifdjaaDoorZW7
import Derived.Lib.MapLaws
import Derived.Lib.TrimU
import Derived.Shelf.Strings.CaseAny
set_option linter.unusedVariables false
set_option linter.unusedSimpArgs false
namespace Go.Proofs.YtgmjaggkiifdjaaDoor.Given
open Go.RowKit Go.Proofs.YtgmjaggkiifdjaaDoorW.PrintWords Go.Proofs.YtgmjaggkiifdjaaDoorW.PrintLast Go.Proofs.YtgmjaggkiifdjaaDoorW.PrintMore Go.Proofs.YtgmjaggkiifdjaaDoor.Base Go.Proofs.YtgmjaggkiifdjaaDoor.Gv
open Go.Lib (CaseRow caseT caseA toR toLowerU toLowerD encodeRune encodeRuneZ decodeL mapD lowerB convertR lookupGo lookupIdx)
def nT (n : Int) : Bool := n == 116 || n == 114 || n == 117 || n == 101
def rowT (x : CaseRow) : Bool := decide (x.2.1 < 128) || decide (x.delta 1 > 1114111) || [116, 114, 117, 101].all fun (c : Int) => decide (c < (x.1 : Int) + x.delta 1) || decide ((x.2.1 : Int) + x.delta 1 < c)
set_option maxRecDepth 1000000 in
theorem rowsT : caseT.all rowT = true := by decide
theorem rowT_at (i : Nat) (hi : i < caseA.size) : rowT (caseA.getD i (0, 0, 0, 0, 0)) = true := by
  have hm : caseA.getD i (0, 0, 0, 0, 0) ∈ caseT := by
    unfold caseA at hi ⊢
    simp only [List.size_toArray] at hi
    simp [Array.getD, hi]
  exact List.all_eq_true.1 rowsT _ hm
theorem toR_notT (r : Int) (h : 128 ≤ r) : nT (toR caseA 1 r) = false := by
  unfold toR lookupGo
  cases hi : lookupIdx caseA r (caseA.size + 1) 0 caseA.size with
  | none =>
    show nT r = false
    unfold nT
    simp only [Bool.or_eq_false_iff, beq_eq_false_iff_ne, ne_eq]
    omega
  | some i =>
    obtain ⟨hil, hlo, hhi⟩ := Go.Lib.lookupIdx_some caseA r _ _ _ i hi
    have hr := rowT_at i hil
    show nT (convertR 1 r (caseA.getD i (0, 0, 0, 0, 0))) = false
    obtain ⟨x, hx⟩ : ∃ x, caseA.getD i (0, 0, 0, 0, 0) = x := ⟨_, rfl⟩
    rw [hx] at hr hlo hhi ⊢
    unfold rowT at hr
    simp only [List.all_cons, List.all_nil, Bool.and_true, Bool.or_eq_true, Bool.and_eq_true, decide_eq_true_eq] at hr
    unfold nT convertR
    simp only [Bool.or_eq_false_iff, beq_eq_false_iff_ne, ne_eq]
    by_cases hd : x.delta 1 > 1114111
    · rw [if_pos hd]
      by_cases hl : (x.1 : Int) ≥ 128
      · omega
      · omega
    · rw [if_neg hd]
      omega
theorem toU8_toNat (n : Int) (h0 : 0 ≤ n) (h1 : n ≤ 255) : ((n.toNat.toUInt8).toNat : Int) = n := by
  rw [Nat.toUInt8_eq, UInt8.toNat_ofNat']; omega
theorem enc_first (x : Int) (h0 : 0 ≤ x) (hx : nT x = false) : ∃ b t, encodeRune x = b :: t ∧ nT (b.toNat : Int) = false := by
  have big : ∀ n : Int, 192 ≤ n → n ≤ 255 → nT ((n.toNat.toUInt8).toNat : Int) = false := by
    intro n h1 h2
    rw [toU8_toNat n (by omega) h2]
    unfold nT
    simp only [Bool.or_eq_false_iff, beq_eq_false_iff_ne, ne_eq]
    omega
  unfold encodeRune encodeRuneZ
  split
  · exact ⟨_, _, rfl, by rw [toU8_toNat x (by omega) (by omega)]; exact hx⟩
  · split
    · exact ⟨_, _, rfl, big _ (by omega) (by omega)⟩
    · split
      · exact ⟨_, _, rfl, big _ (by omega) (by omega)⟩
      · split
        · exact ⟨_, _, rfl, big _ (by omega) (by omega)⟩
        · exact ⟨_, _, rfl, big _ (by omega) (by omega)⟩
theorem lowerB_lo : ∀ i : Fin 128, ((lowerB (UInt8.ofNat i.val)).toNat : Int) = lo ((i.val : Nat) : Int) := by decide
theorem toLowerD_cons (b : UInt8) (t : List UInt8) (hb : b.toNat < 128) : toLowerD (b :: t) = lowerB b :: toLowerD t := by
  unfold toLowerD
  rw [Go.Lib.mapD_step toLowerU (b :: t) (by simp), Go.Lib.decodeL_ascii b t hb]
  dsimp only
  rw [if_pos (Go.Lib.toLowerU_range b.toNat (by omega)).1, Go.Lib.lower_byte ⟨b.toNat, hb⟩, List.drop_succ_cons, List.drop_zero]
  simp
theorem toLowerD_high (b : UInt8) (t : List UInt8) (hb : 128 ≤ b.toNat) : ∃ c u, toLowerD (b :: t) = c :: u ∧ nT (c.toNat : Int) = false := by
  have hd := decode_high ⟨(b :: t).toArray⟩ 0 (by show 0 < (b :: t).toArray.size; simp) (by show 128 ≤ b.toNat; exact hb)
  have h1 : 128 ≤ (decodeL (b :: t)).1 := hd.1
  have hle := Go.Lib.decodeL_rune (b :: t)
  have hT : nT (toLowerU ((decodeL (b :: t)).1 : Int)) = false := by
    unfold toLowerU
    rw [if_neg (by omega)]
    exact toR_notT _ (by omega)
  have h0 := (Go.Lib.toLowerU_range _ hle).1
  obtain ⟨c, u, he, hc⟩ := enc_first _ h0 hT
  unfold toLowerD
  rw [Go.Lib.mapD_step toLowerU (b :: t) (by simp), if_pos h0, he]
  exact ⟨c, _, rfl, hc⟩
theorem lowD_is : ∀ (l T : List UInt8), (∀ c ∈ T, nT (c.toNat : Int) = true) → (toLowerD l = T ↔ (l.map fun b => lo (b.toNat : Int)) = T.map fun b => (b.toNat : Int))
  | [], T, hT => by
    have : toLowerD [] = [] := rfl
    rw [this]
    cases T <;> simp
  | b :: t, T, hT => by
    by_cases hb : b.toNat < 128
    · rw [toLowerD_cons b t hb]
      cases T with
      | nil => simp
      | cons c U =>
        have ih := lowD_is t U (fun x hx => hT x (List.mem_cons_of_mem _ hx))
        have hl := lowerB_lo ⟨b.toNat, hb⟩
        simp only [UInt8.ofNat_toNat] at hl
        rw [List.map_cons, List.map_cons, List.cons.injEq, List.cons.injEq, ih, ← hl]
        have : lowerB b = c ↔ ((lowerB b).toNat : Int) = (c.toNat : Int) := by rw [← UInt8.toNat_inj]; omega
        rw [this]
    · obtain ⟨c, u, he, hc⟩ := toLowerD_high b t (by omega)
      rw [he]
      cases T with
      | nil => simp
      | cons d U =>
        have hd := hT d (List.mem_cons_self ..)
        rw [List.map_cons, List.map_cons]
        constructor
        · intro h
          have := (List.cons.inj h).1
          rw [this, hd] at hc
          cases hc
        · intro h
          have h1 := (List.cons.inj h).1
          have h2 : lo (b.toNat : Int) = (b.toNat : Int) := by unfold lo; rw [if_neg (by omega)]
          rw [h2] at h1
          rw [← h1] at hd
          unfold nT at hd
          simp only [Bool.or_eq_true, beq_iff_eq] at hd
          omega
def isTrue (s : ByteArray) : Bool := decide ((ns s).map lo = [116, 114, 117, 101])
theorem lower_true (s : ByteArray) : ((⟨(toLowerD s.data.toList).toArray⟩ : ByteArray).toList == ([116, 114, 117, 101] : List UInt8)) = isTrue s := by
  have h := lowD_is s.data.toList [116, 114, 117, 101] (by decide)
  unfold isTrue ns
  rw [Bool.eq_iff_iff, beq_iff_eq, decide_eq_true_eq, List.map_map, Lib.toList_data]
  exact h
end Go.Proofs.YtgmjaggkiifdjaaDoor.Given
