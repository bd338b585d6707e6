/- Texts of this claim, one behind the other (merged by wip/prune.py of this repo, without what the proof does not use): WWords, PrX, WLast, WTab, WApart, WEqStruct, WRepsOne, WGuard, WMore, QA0, QA7, QA10, QA11, Base, GvRow, GvNk, GLow, QA12, QA13, QA1, QA14, GvNhk, GNormal, HOwn, HKv, HAlloc, HApp, QA8, HEq, HApp2. -/
import Derived.ArgAppend
import Derived.Below
import Derived.BigQuiet
import Derived.ChangeSlices
import Derived.Deep.AppendLies
import Derived.Deep.CutBlock
import Derived.Deep.DeepCutAuto
import Derived.Deep.Draws
import Derived.Deep.LoopGhost
import Derived.Deep.OwnRows
import Derived.Deep.QuietTactic
import Derived.Deep.RegionHeld3
import Derived.KernelRfl
import Derived.Laws.BitsLemmas
import Derived.Laws.BytesArg
import Derived.Laws.IdiomCopy
import Derived.Laws.MakeOwn
import Derived.Laws.OwnMore
import Derived.Laws.RangeAny
import Derived.Laws.RangeString
import Derived.Laws.Rows
import Derived.Laws.Slices
import Derived.Laws.StructEq
import Derived.Lib.AppendStr
import Derived.Lib.ConvBytes
import Derived.Lib.Hide
import Derived.Lib.SliceRun
import Derived.Lib.Strings
import Derived.Lib.TrimU
import Derived.Maps.AppendAt
import Derived.OrdersHeld
import Derived.Outline
import Derived.OwnWalk
import Derived.RowKit
import Derived.RowKit3
import Derived.SizedLaws
import Derived.Tactics
import Derived.Test.YtoimkmoalmmooaaProg
import Derived.WalkKit
import Derived.WalkLawsBesides
import Derived.WalkMore
import Derived.WalkSpells
import Derived.WideLaws
set_option linter.unusedVariables false
set_option linter.unusedSimpArgs false
namespace Go.Proofs.YtoimkmoalmmooaaW.PrintWords
open Go.RowKit
structure Aside0 (p : Prop) : Prop where mk :: (out : p)
structure Drawn0 (w w' : World) : Prop where mk :: (out : ∃ n, w' = w.drewN n)
theorem Drawn0.refl (w : World) : Drawn0 w w := ⟨⟨0, rfl⟩⟩
theorem Drawn0.step {w w' : World} (h : Drawn0 w w') (n : Nat) : Drawn0 w (w'.drewN n) := by
  obtain ⟨m, rfl⟩ := h
  exact ⟨⟨m + n, World.drewN_drewN ..⟩⟩
def rd (xs : List Int) (i : Int) : Int := xs.getD i.toNat 0
def bt (s : ByteArray) (i : Int) : Int := if h : i.toNat < s.size then ((s[i.toNat]'h).toNat : Int) else 0
theorem bt_at (s : ByteArray) (i : Int) : ∀ h : i.toNat < s.size, ((s[i.toNat]'h).toNat : Int) = bt s i := fun h => by simp [bt, h]
def nums (k : IntKind) (xs : List Int) : List Value := xs.map fun x => .int k x
theorem nums_append (k : IntKind) (xs ys : List Int) : nums k (xs ++ ys) = nums k xs ++ nums k ys := by simp [nums]
theorem below_alloc {w W : World} (h : Below w.heap.size w W) (o : Obj) : Below w.heap.size w (W.alloc o) := h.alloc h.size o
theorem below_drew {B : Nat} {w W : World} (h : Below B w W) : Below B w W.drew := ⟨h.os, h.tape, h.output, h.size, h.block⟩
theorem pw_below_drewN {B : Nat} {w W : World} (h : Below B w W) (n : Nat) : Below B w (W.drewN n) := ⟨h.os, h.tape, h.output, h.size, h.block⟩
theorem below_then {B : Nat} {w w1 w2 : World} (h : Below B w w1) (hB : B ≤ w1.heap.size) (k : Below w1.heap.size w1 w2) : Below B w w2 :=
  h.trans ⟨k.os, k.tape, k.output, k.size, fun i hi => k.block i (Nat.lt_of_lt_of_le hi hB)⟩
theorem pw_cell_below {w w1 : World} (h : Below w.heap.size w w1) {a : Addr} {v : Value} (hc : w.cell? a = some v) : w1.cell? a = some v := (h.cell (World.block_lt_of_cell? w a hc)).trans hc
theorem add_plain (g j : Nat) : (⟨g, 0, none⟩ : Addr).add j = ⟨g, j, none⟩ := by unfold Addr.add; split <;> simp_all
def ReadsInt (w : World) (k : IntKind) (A : Option Addr) (n : Nat) (xs : List Int) : Prop :=
  xs.length = n ∧ n ≤ 9223372036854775807 ∧ (0 < n → ∃ ad, A = some ad ∧ ∀ j, j < n → w.cell? (ad.add j) = some (.int k (xs.getD j 0)))
theorem ReadsInt.at_ {w : World} {k : IntKind} {A : Option Addr} {n : Nat} {xs : List Int} (h : ReadsInt w k A n xs) (i : Int) (h0 : 0 ≤ i) (h1 : i < n) : ∃ ad, A = some ad ∧ w.cell? (ad.add i.toNat) = some (.int k (rd xs i)) := by
  obtain ⟨ad, e, hc⟩ := h.2.2 (by omega)
  exact ⟨ad, e, hc _ (by omega)⟩
theorem own_nil (W : World) (base : Nat) (e : TypeId) (size : Nat) : W.ownsRow base e size (.slice none 0 0) 0 [] := ⟨by simp, .inl ⟨rfl, rfl⟩⟩
theorem own_base {w : World} {base : Nat} {e : TypeId} {size n : Nat} {v : Value} {xs : List Value} (h : w.ownsRow base e size v n xs) (k : Nat) (hk : v.ownBlock = some k) : base ≤ k := by
  rcases h.2 with ⟨rfl, _⟩ | ⟨g, cap, cur, rfl, hb, _⟩
  · simp [Value.ownBlock] at hk
  · have : g = k := by simpa [Value.ownBlock] using hk
    omega
theorem own_lt {w : World} {base : Nat} {e : TypeId} {size n : Nat} {v : Value} {xs : List Value} (h : w.ownsRow base e size v n xs) (k : Nat) (hk : v.ownBlock = some k) : k < w.heap.size := by
  rcases h.2 with ⟨rfl, _⟩ | ⟨g, cap, cur, rfl, hb, hh, _⟩
  · simp [Value.ownBlock] at hk
  · have : g = k := by simpa [Value.ownBlock] using hk
    subst this
    exact (Array.getElem?_eq_some_iff.1 hh).1
section
variable {P : Program} {ops : Array Oper} {rest : List Oper} {o : Oper} {a : Act} {Q : Exit → Act → World → Prop}
end
section
variable {P : Program}
end
theorem own_store {W : World} {base g n cap : Nat} {e : TypeId} {k : IntKind} {xs : List Int} (h : W.ownsRow base e 1 (.slice (some ⟨g, 0, none⟩) n cap) n (nums k xs)) (i x : Int) :
    (W.setCell ⟨g, i.toNat, none⟩ (.int k x)).ownsRow base e 1 (.slice (some ⟨g, 0, none⟩) n cap) n (nums k (xs.set i.toNat x)) ∧ W.grownBy (W.setCell ⟨g, i.toNat, none⟩ (.int k x)) (some g) := by
  have hs := h.stored i.toNat (.int k x)
  have he : (nums k xs).set i.toNat (.int k x) = nums k (xs.set i.toNat x) := by simp [nums, List.map_set]
  rwa [he] at hs
section
variable {P : Program} {ops : Array Oper} {rest : List Oper} {o : Oper} {a : Act} {Q : Exit → Act → World → Prop}
theorem print_append_row {w0 W : World} (base : Nat) (hgd : o.guard = none) (s x : Operand) (t e : TypeId) (k : IntKind) (bytes : Nat)
    (ho : o.op = .call { callee := .builtin .append, args := #[s, x], argTypes := #[t, t] })
    (ht : P.underlying t = some (.slice e)) (hinfo : (P.info? e).map (fun i => (i.zero, i.size, i.bytes)) = some (some (.int k 0), 1, bytes)) (hb0 : 0 < bytes)
    (v : Value) (xs ys : List Int) (A : Option Addr) (m c : Nat) (hs : a.eval s = v) (hx : a.eval x = .slice A m c)
    (HO : W.ownsRow base e 1 v xs.length (nums k xs)) (HR : ReadsInt W k A m ys) (HB : Below base w0 W) (hbase : base ≤ W.heap.size) (hl : (xs.length + m) * bytes ≤ 140737488355328)
    (h : ∀ v1 w1, w1.ownsRow base e 1 v1 (xs ++ ys).length (nums k (xs ++ ys)) → Below base w0 w1 → W.grownBy w1 v.ownBlock → (v1.ownBlock = v.ownBlock ∨ ∃ b, v1.ownBlock = some b ∧ W.heap.size ≤ b) → wpList P ops Q rest (a.put o.dst v1) w1) :
    wpList P ops Q (o :: rest) a W := by
  obtain ⟨i0, hi, hzz⟩ := Option.map_eq_some_iff.1 hinfo
  simp only [Prod.mk.injEq] at hzz
  obtain ⟨hz0, hz1, hz2⟩ := hzz
  have hm : ys.length = m := HR.1
  have hlen : xs.length + m ≤ 140737488355328 := Nat.le_trans (Nat.le_mul_of_pos_right _ hb0) hl
  have hrun : ∃ v1 w1, (Builtin.append_ #[t, t] o.type #[v, .slice A m c]).run P W = .ok v1 w1 ∧ w1.ownsRow base e 1 v1 (xs ++ ys).length (nums k (xs ++ ys)) ∧ W.grownBy w1 v.ownBlock ∧ (v1.ownBlock = v.ownBlock ∨ v1.ownBlock = some W.heap.size) := by
    rcases A with _ | ad
    · have h0 : m = 0 := by
        rcases Nat.eq_zero_or_pos m with h0 | h0
        · exact h0
        · obtain ⟨ad, h, _⟩ := HR.2.2 h0
          cases h
      subst h0
      obtain rfl : ys = [] := List.eq_nil_of_length_eq_zero hm
      refine ⟨v, W, ?_, by simpa using HO, World.grownBy.refl W _, .inl rfl⟩
      rcases HO.2 with ⟨rfl, hn⟩ | ⟨g, cap, cur, rfl, _, _, hnc, _⟩
      · simp [Builtin.append_, run_underlying ht, sizeOf, typeInfo, hi, Builtin.lenOf, Builtin.firstCells]
      · simp [Builtin.append_, run_underlying ht, sizeOf, typeInfo, hi, Builtin.lenOf, Builtin.firstCells, hnc, storeCells]
    · have hcells : ∀ j u, (nums k ys)[j]? = some u → W.cell? (ad.add j) = some u := by
        intro j u hu
        have hj : j < ys.length := by
          rcases Nat.lt_or_ge j ys.length with h | h
          · exact h
          · simp [nums, List.getElem?_eq_none h] at hu
        obtain ⟨ad', h', hc⟩ := HR.2.2 (by omega)
        injection h' with h'
        subst h'
        have := hc j (by omega)
        simp [nums, List.getElem?_eq_getElem hj] at hu
        subst hu
        rw [this]
        simp [List.getD_eq_getElem?_getD, List.getElem?_eq_getElem hj]
      obtain ⟨v1, w1, hr, h2, h3, _, h5⟩ := run_append_own_at (P := P) W base t o.type e i0 (.int k 0) 1 bytes ht hi hz0 hz1 hz2 rfl (by omega) v xs.length (nums k xs) HO ad m c (nums k ys) (by simp [nums, hm]) hcells
        (by intro u hu; simp only [nums, List.mem_map] at hu; obtain ⟨q, _, rfl⟩ := hu; rfl) (by simp only [maxLen]; omega) hl hbase
      exact ⟨v1, w1, hr, by simpa [nums, hm] using h2, h3, h5⟩
  obtain ⟨v1, w1, hr, hown, hg, hat⟩ := hrun
  refine wpList_plain hgd fun K hK => ?_
  unfold Oper.wp execOp
  simp only [ho, resolve, invoke, builtin, Sem.run_bind, Sem.run_pure, Result.andThen_ok, List.map_toArray, List.map_cons, List.map_nil, hs, hx, hr]
  refine hK _ _ (h v1 w1 hown (HB.grown hg hbase (own_base HO)) hg ?_)
  rcases hat with hat | hat
  · exact .inl hat
  · exact .inr ⟨_, hat, Nat.le_refl _⟩
end
theorem ReadsInt.take_ {w : World} {k : IntKind} {A : Option Addr} {n : Nat} {xs : List Int} (h : ReadsInt w k A n xs) (i : Nat) (hi : i ≤ n) : ReadsInt w k A i (xs.take i) := by
  refine ⟨by rw [List.length_take, h.1]; omega, by have := h.2.1; omega, fun hp => ?_⟩
  obtain ⟨ad, e, hc⟩ := h.2.2 (by omega)
  refine ⟨ad, e, fun j hj => ?_⟩
  rw [hc j (by omega)]
  simp [List.getD_eq_getElem?_getD, hj]
theorem ReadsInt.drop_ {w : World} {k : IntKind} {A : Option Addr} {n c : Nat} {xs : List Int} (h : ReadsInt w k A n xs) (i : Nat) (hi : i ≤ n) (hc : n ≤ c) : ReadsInt w k (if c = i then A else A.map (·.add i)) (n - i) (xs.drop i) := by
  refine ⟨by rw [List.length_drop, h.1], by have := h.2.1; omega, fun hp => ?_⟩
  obtain ⟨ad, rfl, hcell⟩ := h.2.2 (by omega)
  rw [if_neg (by omega)]
  refine ⟨ad.add i, rfl, fun j hj => ?_⟩
  have ha : (ad.add i).add j = ad.add (i + j) := by
    unfold Addr.add
    by_cases h1 : i = 0 <;> by_cases h2 : j = 0 <;> simp [h1, h2, Nat.add_assoc]
  rw [ha, hcell (i + j) (by omega)]
  simp [List.getD_eq_getElem?_getD, List.getElem?_drop]
theorem print_cut {P : Program} (t e : TypeId) (kl : IntKind) {i : TypeInfo} (ht : P.underlying t = some (.slice e)) (hi : P.info? e = some i) (hsz : i.size = 1) (A : Option Addr) (n c m : Nat) (hm : m ≤ n) :
    ∃ A' : Option Addr, (∀ W : World, (Instr.slice t (.slice A n c) (some (.int kl (m : Int))) none none).run P W = .ok (.slice A' (n - m) (c - m)) W) ∧
      ∀ (w : World) (k : IntKind) (xs : List Int), n ≤ c → ReadsInt w k A n xs → ReadsInt w k A' (n - m) (xs.drop m) := by
  refine ⟨if c = m then A else A.map (·.add m), fun W => ?_, fun w k xs hc h => h.drop_ m hm hc⟩
  have hel : P.elem t = e := by simp [Program.elem, ht]
  have hu : P.underlying t = some (.slice (P.elem t)) := by rw [hel]; exact ht
  rw [run_slice_l W t A n c hu kl (m : Int) (Int.natCast_nonneg _) (by omega), hel]
  simp [sizeOf, typeInfo, hi, hsz, sliced, Result.andThen]
def Reps {α : Type} (R : α → List Value → Prop) (size : Nat) (ps : List α) (cs : List Value) : Prop :=
  cs.length = ps.length * size ∧ ∀ j p, ps[j]? = some p → R p ((cs.drop (j * size)).take size)
theorem Reps.none {α : Type} (R : α → List Value → Prop) (size : Nat) : Reps R size [] [] := ⟨by simp, fun j p h => by simp at h⟩
theorem Reps.snoc {α : Type} {R : α → List Value → Prop} {size : Nat} {ps : List α} {cs c : List Value} {p : α} (h : Reps R size ps cs) (hp : R p c) (hc : c.length = size) : Reps R size (ps ++ [p]) (cs ++ c) := by
  refine ⟨by rw [List.length_append, h.1, hc, List.length_append, List.length_singleton, Nat.add_mul, Nat.one_mul], fun j q hq => ?_⟩
  rcases Nat.lt_or_ge j ps.length with hj | hj
  · rw [List.getElem?_append_left hj] at hq
    have h1 : j * size + size ≤ cs.length := by rw [h.1, ← Nat.succ_mul]; exact Nat.mul_le_mul_right _ hj
    have h2 := h.2 j q hq
    rw [List.drop_append_of_le_length (by omega), List.take_append_of_le_length (by rw [List.length_drop]; omega)]
    exact h2
  · have hj' : j = ps.length := by
      have := (List.getElem?_eq_some_iff.1 hq).1
      rw [List.length_append, List.length_singleton] at this
      omega
    subst hj'
    have hq' : p = q := by simpa using hq
    subst hq'
    rw [← h.1, List.drop_left, ← hc, List.take_length]
    exact hp
theorem Reps.imp_ {α : Type} {R R' : α → List Value → Prop} {size : Nat} {ps : List α} {cs : List Value} (h : Reps R size ps cs) (hR : ∀ p c, R p c → R' p c) : Reps R' size ps cs := ⟨h.1, fun j p hj => hR _ _ (h.2 j p hj)⟩
def ReadsRow {α : Type} (R : α → List Value → Prop) (size : Nat) (w : World) (A : Option Addr) (n : Nat) (ps : List α) : Prop :=
  ps.length = n ∧ n ≤ 9223372036854775807 ∧ (0 < n → ∃ ad, A = some ad ∧ ∀ j p, ps[j]? = some p → ∃ c, c.length = size ∧ R p c ∧ ∀ i u, c[i]? = some u → w.cell? (ad.add (j * size + i)) = some u)
theorem ReadsRow.get_ {α : Type} {R : α → List Value → Prop} {size : Nat} {w : World} {A : Option Addr} {n : Nat} {ps : List α} (h : ReadsRow R size w A n ps) (d : α) (i : Int) (h0 : 0 ≤ i) (h1 : i < n) :
    ∃ ad c, A = some ad ∧ c.length = size ∧ R (ps.getD i.toNat d) c ∧ ∀ j u, c[j]? = some u → w.cell? (ad.add (i.toNat * size + j)) = some u := by
  obtain ⟨ad, e, hc⟩ := h.2.2 (by omega)
  have hl : i.toNat < ps.length := by have := h.1; omega
  obtain ⟨c, hs, hr, hcell⟩ := hc i.toNat _ (List.getElem?_eq_getElem hl)
  refine ⟨ad, c, e, hs, ?_, hcell⟩
  rw [List.getD_eq_getElem?_getD, List.getElem?_eq_getElem hl]
  exact hr
theorem ReadsRow.imp_ {α : Type} {R R' : α → List Value → Prop} {size : Nat} {w w1 : World} {A : Option Addr} {n : Nat} {ps : List α} (h : ReadsRow R size w A n ps) (hb : Below w.heap.size w w1) (hR : ∀ p c, R p c → R' p c) : ReadsRow R' size w1 A n ps :=
  ⟨h.1, h.2.1, fun hn => by
    obtain ⟨ad, e, hc⟩ := h.2.2 hn
    refine ⟨ad, e, fun j p hj => ?_⟩
    obtain ⟨c, hs, hr, hcell⟩ := hc j p hj
    exact ⟨c, hs, hR _ _ hr, fun i u hu => pw_cell_below hb (hcell i u hu)⟩⟩
theorem own_reads_row {α : Type} {R : α → List Value → Prop} {w : World} {base n size : Nat} {e : TypeId} {v : Value} {ps : List α} {cs : List Value} (h : w.ownsRow base e size v n cs) (hR : Reps R size ps cs) (hn : ps.length = n) :
    ∃ A c, v = .slice A n c ∧ ReadsRow R size w A n ps := by
  rcases Nat.eq_zero_or_pos n with h0 | h0
  · rcases h.2 with ⟨rfl, rfl⟩ | ⟨g, cap, cur, rfl, _⟩
    · exact ⟨none, 0, rfl, hn, by omega, fun hp => absurd hp (by omega)⟩
    · exact ⟨_, cap, rfl, hn, by omega, fun hp => absurd hp (by omega)⟩
  · obtain ⟨g, cap, rfl, _, _⟩ := h.form h0
    have hm : n ≤ 9223372036854775807 := by
      rcases h.2 with ⟨_, h1⟩ | ⟨g', cap', cur, he, _, _, h1, h2, _⟩
      · omega
      · simp only [maxLen] at h2
        omega
    refine ⟨_, cap, rfl, hn, hm, fun _ => ⟨_, rfl, fun j p hj => ⟨(cs.drop (j * size)).take size, ?_, hR.2 j p hj, fun i u hu => ?_⟩⟩⟩
    · have hjl := (List.getElem?_eq_some_iff.1 hj).1
      have h1 : j * size + size ≤ cs.length := by rw [hR.1, ← Nat.succ_mul]; exact Nat.mul_le_mul_right _ hjl
      rw [List.length_take, List.length_drop]
      omega
    · refine h.cells (g := g) rfl _ u ?_
      rw [List.getElem?_take] at hu
      split at hu
      · rw [List.getElem?_drop] at hu
        exact hu
      · cases hu
theorem add_field (ad : Addr) (m j : Nat) (hj : 0 < j) : ad.add (m + j) = ⟨(ad.add m).block, (ad.add m).off + j, none⟩ := by
  unfold Addr.add
  by_cases hm : m = 0
  · subst hm
    simp [Nat.ne_of_gt hj]
  · simp [hm, Nat.add_assoc]
section
variable {P : Program} {ops : Array Oper} {rest : List Oper} {o : Oper} {a : Act} {Q : Exit → Act → World → Prop}
theorem print_append_cells {w0 W : World} (base : Nat) (hgd : o.guard = none) (s x : Operand) (t e : TypeId) (z : Value) (size bytes : Nat)
    (ho : o.op = .call { callee := .builtin .append, args := #[s, x], argTypes := #[t, t] })
    (ht : P.underlying t = some (.slice e)) (hinfo : (P.info? e).map (fun i => (i.zero, i.size, i.bytes)) = some (some z, size, bytes)) (hz : z.cells.size = size) (hs0 : 0 < size) (hb0 : 0 < bytes)
    (v : Value) (n : Nat) (xs ys : List Value) (hs : a.eval s = v) (hx : a.eval x = .slice (some ⟨W.heap.size, 0, none⟩) 1 1) (hys : ys.length = size) (h1 : ∀ u ∈ ys, u.oneCell' = true)
    (HO : W.ownsRow base e size v n xs) (HB : Below base w0 W) (hbase : base ≤ W.heap.size) (hl : (n + 1) * bytes ≤ 140737488355328)
    (h : ∀ v1 w1, w1.ownsRow base e size v1 (n + 1) (xs ++ ys) → Below base w0 w1 → W.grownBy w1 v.ownBlock → (v1.ownBlock = v.ownBlock ∨ ∃ b, v1.ownBlock = some b ∧ W.heap.size ≤ b) → wpList P ops Q rest (a.put o.dst v1) w1) :
    wpList P ops Q (o :: rest) a (W.alloc (.cells ys.toArray e)) := by
  obtain ⟨i0, hi, hzz⟩ := Option.map_eq_some_iff.1 hinfo
  simp only [Prod.mk.injEq] at hzz
  obtain ⟨hz0, hz1, hz2⟩ := hzz
  have hlen : n + 1 ≤ 140737488355328 := Nat.le_trans (Nat.le_mul_of_pos_right _ hb0) hl
  refine wpList_append_own_at (W.alloc (.cells ys.toArray e)) hgd s x t ho base e i0 z size bytes ht hi hz0 hz1 hz2 hz hs0 v n xs hs (HO.alloc _) ⟨W.heap.size, 0, none⟩ 1 1 ys hx (by rw [hys]; simp)
    (by simpa using World.news_of_block (cs := ys.toArray) (t := e) (fr := (0, 0)) (heap_alloc_new W (.cells ys.toArray e))) h1 (by simp only [maxLen]; omega) hl (by simp; omega) ?_
  intro v1 w1 hown hg _ hat
  refine h v1 w1 hown ((HB.alloc hbase _).grown hg (by simp; omega) (own_base HO)) (World.grownBy.trans (World.grownBy_alloc W _ _) hg) ?_
  rcases hat with hat | hat
  · exact .inl hat
  · exact .inr ⟨_, hat, by simp⟩
end
theorem own_ne {w : World} {base : Nat} {e t : TypeId} {size n g : Nat} {v : Value} {xs : List Value} {cs : Array Value} (h : w.ownsRow base e size v n xs) (hg : w.heap[g]? = some (.cells cs t (0, 0))) (hne : e ≠ t) : some g ≠ v.ownBlock := by
  rcases h.2 with ⟨rfl, _⟩ | ⟨g', cap, cur, rfl, _, hh, _⟩
  · simp [Value.ownBlock]
  · intro he
    have : g = g' := by simpa [Value.ownBlock] using he
    subst this
    rw [hg] at hh
    injection hh with hh
    injection hh with _ ht
    exact hne ht.symm
theorem blk_set {w : World} {g : Nat} {t : TypeId} {cs : Array Value} (h : w.heap[g]? = some (.cells cs t (0, 0))) (i : Nat) (u : Value) : (w.setCell ⟨g, i, none⟩ u).heap[g]? = some (.cells (cs.setIfInBounds i u) t (0, 0)) := by
  simp [World.setCell, Array.getElem?_modify, h]
theorem blk_lt {w : World} {g : Nat} {o : Obj} (h : w.heap[g]? = some o) : g < w.heap.size := (Array.getElem?_eq_some_iff.1 h).1
theorem blk_cell {w : World} {g : Nat} {t : TypeId} {cs : Array Value} (h : w.heap[g]? = some (.cells cs t (0, 0))) (i : Nat) : w.cell? ⟨g, i, none⟩ = cs[i]? := cell_of_row w g i cs t (0, 0) h
theorem blk_frozen {w : World} {g : Nat} {t : TypeId} {cs : Array Value} (h : w.heap[g]? = some (.cells cs t (0, 0))) (i : Nat) : w.frozen? ⟨g, i, none⟩ = false := by simp [World.frozen?, h]
theorem blk_grown {w w1 : World} {g : Nat} {o : Obj} {row : Option Nat} (h : w.heap[g]? = some o) (hg : w.grownBy w1 row) (hne : some g ≠ row) : w1.heap[g]? = some o := (hg.block g (blk_lt h) hne).trans h
def KeepBut (w w' : World) (g : Nat) (row : Option Nat) : Prop := w.heap.size ≤ w'.heap.size ∧ ∀ i, i < w.heap.size → i ≠ g → some i ≠ row → w'.heap[i]? = w.heap[i]?
theorem KeepBut.trans {w w1 w2 : World} {g : Nat} {row row1 : Option Nat} (h : KeepBut w w1 g row) (k : KeepBut w1 w2 g row1) (hr : row1 = row ∨ ∃ b, row1 = some b ∧ w.heap.size ≤ b) : KeepBut w w2 g row :=
  ⟨Nat.le_trans h.1 k.1, fun i hi hg hn => by
    refine (k.2 i (Nat.lt_of_lt_of_le hi h.1) hg ?_).trans (h.2 i hi hg hn)
    rcases hr with rfl | ⟨b, rfl, hb⟩
    · exact hn
    · intro e
      injection e with e
      omega⟩
def Ev {α : Type} (g : Nat → Option α) (r : α) : Prop := ∃ K, ∀ k, K ≤ k → g k = some r
theorem Ev.now {α : Type} (r : α) : Ev (fun _ => some r) r := ⟨0, fun _ _ => rfl⟩
theorem Ev.rounds {α : Type} {g : Nat → Option α} {r : α} (h : Ev g r) : ∃ k, g k = some r := by
  obtain ⟨K, h⟩ := h
  exact ⟨K, h K (Nat.le_refl _)⟩
theorem Ev.bind {α β : Type} {g : Nat → Option α} {f : Nat → α → Option β} {a : α} {r : β} (h : Ev g a) (k : Ev (fun n => f n a) r) : Ev (fun n => (g n).bind (f n)) r := by
  obtain ⟨K, h⟩ := h
  obtain ⟨K', k⟩ := k
  refine ⟨max K K', fun n hn => ?_⟩
  have h1 := h n (by omega)
  have h2 := k n (by omega)
  simp only [h1, Option.bind_some]
  exact h2
theorem Ev.step {α : Type} {g f : Nat → Option α} {r : α} (h : ∀ k, g (k + 1) = f k) (k : Ev f r) : Ev g r := by
  obtain ⟨K, k⟩ := k
  refine ⟨K + 1, fun n hn => ?_⟩
  obtain ⟨m, rfl⟩ : ∃ m, n = m + 1 := ⟨n - 1, by omega⟩
  rw [h]
  exact k m (by omega)
section
variable {P : Program} {ops : Array Oper} {o : Oper} {a : Act} {Q : Exit → Act → World → Prop} {K : Act → World → Prop}
end
theorem own_weaken {w : World} {base base' : Nat} {e : TypeId} {size n : Nat} {v : Value} {xs : List Value} (h : w.ownsRow base e size v n xs) (hb : base' ≤ base) : w.ownsRow base' e size v n xs := by
  obtain ⟨h1, h2⟩ := h
  refine ⟨h1, ?_⟩
  rcases h2 with h2 | ⟨g, cap, cur, rfl, hg, r⟩
  · exact .inl h2
  · exact .inr ⟨g, cap, cur, rfl, Nat.le_trans hb hg, r⟩
section
variable {α : Type} {enc : α → Value} {d : α}
def rdOf (d : α) (xs : List α) (i : Int) : α := xs.getD i.toNat d
def ReadsOf (enc : α → Value) (d : α) (w : World) (A : Option Addr) (n : Nat) (xs : List α) : Prop :=
  xs.length = n ∧ n ≤ 9223372036854775807 ∧ (0 < n → ∃ ad, A = some ad ∧ ∀ j, j < n → w.cell? (ad.add j) = some (enc (xs.getD j d)))
theorem ReadsOf.at_ {w : World} {A : Option Addr} {n : Nat} {xs : List α} (h : ReadsOf enc d w A n xs) (i : Int) (h0 : 0 ≤ i) (h1 : i < n) : ∃ ad, A = some ad ∧ w.cell? (ad.add i.toNat) = some (enc (rdOf d xs i)) := by
  obtain ⟨ad, e, hc⟩ := h.2.2 (by omega)
  exact ⟨ad, e, hc _ (by omega)⟩
theorem ReadsOf.take_ {w : World} {A : Option Addr} {n : Nat} {xs : List α} (h : ReadsOf enc d w A n xs) (i : Nat) (hi : i ≤ n) : ReadsOf enc d w A i (xs.take i) := by
  refine ⟨by rw [List.length_take, h.1]; omega, by have := h.2.1; omega, fun hp => ?_⟩
  obtain ⟨ad, e, hc⟩ := h.2.2 (by omega)
  refine ⟨ad, e, fun j hj => ?_⟩
  rw [hc j (by omega)]
  simp [List.getD_eq_getElem?_getD, hj]
theorem ReadsOf.drop_ {w : World} {A : Option Addr} {n c : Nat} {xs : List α} (h : ReadsOf enc d w A n xs) (i : Nat) (hi : i ≤ n) (hc : n ≤ c) : ReadsOf enc d w (if c = i then A else A.map (·.add i)) (n - i) (xs.drop i) := by
  refine ⟨by rw [List.length_drop, h.1], by have := h.2.1; omega, fun hp => ?_⟩
  obtain ⟨ad, rfl, hcell⟩ := h.2.2 (by omega)
  rw [if_neg (by omega)]
  refine ⟨ad.add i, rfl, fun j hj => ?_⟩
  have ha : (ad.add i).add j = ad.add (i + j) := by
    unfold Addr.add
    by_cases h1 : i = 0 <;> by_cases h2 : j = 0 <;> simp [h1, h2, Nat.add_assoc]
  rw [ha, hcell (i + j) (by omega)]
  simp [List.getD_eq_getElem?_getD, List.getElem?_drop]
theorem print_cut_of {P : Program} (enc : α → Value) (d : α) (t e : TypeId) (kl : IntKind) {i : TypeInfo} (ht : P.underlying t = some (.slice e)) (hi : P.info? e = some i) (hsz : i.size = 1) (A : Option Addr) (n c m : Nat) (hm : m ≤ n) :
    ∃ A' : Option Addr, (∀ W : World, (Instr.slice t (.slice A n c) (some (.int kl (m : Int))) none none).run P W = .ok (.slice A' (n - m) (c - m)) W) ∧
      ∀ (w : World) (xs : List α), n ≤ c → ReadsOf enc d w A n xs → ReadsOf enc d w A' (n - m) (xs.drop m) := by
  refine ⟨if c = m then A else A.map (·.add m), fun W => ?_, fun w xs hc h => h.drop_ m hm hc⟩
  have hel : P.elem t = e := by simp [Program.elem, ht]
  have hu : P.underlying t = some (.slice (P.elem t)) := by rw [hel]; exact ht
  rw [run_slice_l W t A n c hu kl (m : Int) (Int.natCast_nonneg _) (by omega), hel]
  simp [sizeOf, typeInfo, hi, hsz, sliced, Result.andThen]
end
section
variable {α : Type} {P : Program} {ops : Array Oper} {rest : List Oper} {o : Oper} {a : Act} {Q : Exit → Act → World → Prop}
end
theorem blk_alloc {w : World} {g : Nat} {o : Obj} (h : w.heap[g]? = some o) (o' : Obj) : (w.alloc o').heap[g]? = some o := (Below.heap_alloc w o' g (blk_lt h)).trans h
theorem blk_new (w : World) (o : Obj) : (w.alloc o).heap[w.heap.size]? = some o := heap_alloc_new w o
section
variable {P : Program}
end
theorem own_le {w : World} {base n m c size : Nat} {e : TypeId} {A : Option Addr} {xs : List Value} (h : w.ownsRow base e size (.slice A m c) n xs) : m ≤ c := by
  rcases h.2 with ⟨he, _⟩ | ⟨g, cap, cur, he, _, _, hnc, _⟩
  · injection he with _ h2 h3
    omega
  · injection he with _ h2 h3
    omega
def OwnRow {α : Type} (R : α → List Value → Prop) (e : TypeId) (size : Nat) (w : World) (base : Nat) (v : Value) (ps : List α) : Prop :=
  ∃ inner, w.ownsRow base e size v ps.length inner ∧ Reps R size ps inner
section
variable {α : Type} {R R' : α → List Value → Prop} {e : TypeId} {size : Nat} {w w1 : World} {base : Nat} {v : Value} {ps : List α}
theorem OwnRow.none_ (R : α → List Value → Prop) (e : TypeId) (size : Nat) (w : World) (base : Nat) : OwnRow R e size w base (.slice none 0 0) [] := ⟨[], own_nil _ _ _ _, Reps.none _ _⟩
theorem OwnRow.imp_ (h : OwnRow R e size w base v ps) (hR : ∀ p c, R p c → R' p c) : OwnRow R' e size w base v ps := by
  obtain ⟨inner, ho, hr⟩ := h
  exact ⟨inner, ho, hr.imp_ hR⟩
theorem OwnRow.reads (h : OwnRow R e size w base v ps) : ∃ A c, v = .slice A ps.length c ∧ ps.length ≤ c ∧ ReadsRow R size w A ps.length ps := by
  obtain ⟨inner, ho, hr⟩ := h
  obtain ⟨A, c, rfl, hrow⟩ := own_reads_row ho hr rfl
  exact ⟨A, c, rfl, own_le ho, hrow⟩
theorem OwnRow.ne_block (h : OwnRow R e size w base v ps) {g : Nat} {t : TypeId} {cells : Array Value} (hb : w.heap[g]? = some (.cells cells t (0, 0))) (ht : e ≠ t) : some g ≠ v.ownBlock := by
  obtain ⟨inner, ho, hr⟩ := h
  exact own_ne ho hb ht
end
section
variable {P : Program} {ops : Array Oper} {rest : List Oper} {o : Oper} {a : Act} {Q : Exit → Act → World → Prop} {α : Type} {R : α → List Value → Prop}
end
section
variable {P : Program} {ops : Array Oper} {o : Oper} {a : Act} {Q : Exit → Act → World → Prop} {K : Act → World → Prop} {α : Type} {R : α → List Value → Prop}
end
section
variable {α : Type} {P : Program}
theorem print_take_of (enc : α → Value) (d : α) (t e : TypeId) (kl : IntKind) {i : TypeInfo} (ht : P.underlying t = some (.slice e)) (hi : P.info? e = some i) (hsz : i.size = 1) (A : Option Addr) (c : Nat) (xs : List α) (j : Int) (h0 : 0 ≤ j) (hm : j ≤ xs.length) (hc : xs.length ≤ c) :
    (∀ W : World, (Instr.slice t (.slice A xs.length c) none (some (.int kl j)) none).run P W = .ok (.slice A (xs.take j.toNat).length c) W) ∧
      (∀ w : World, ReadsOf enc d w A xs.length xs → ReadsOf enc d w A (xs.take j.toNat).length (xs.take j.toNat)) ∧ (xs.take j.toNat).length ≤ c := by
  have hl : (xs.take j.toNat).length = j.toNat := by rw [List.length_take]; omega
  refine ⟨fun W => ?_, fun w h => by rw [hl]; exact h.take_ j.toNat (by omega), by rw [hl]; omega⟩
  have hel : P.elem t = e := by simp [Program.elem, ht]
  have hu : P.underlying t = some (.slice (P.elem t)) := by rw [hel]; exact ht
  have ha : (A.map fun x => x.add 0) = A := by cases A <;> simp [Addr.add]
  rw [run_slice_h W t A xs.length c hu kl j h0 (by omega), hel, hl]
  simp [sizeOf, typeInfo, hi, hsz, sliced, Result.andThen, ha]
theorem print_drop_of (enc : α → Value) (d : α) (t e : TypeId) (kl : IntKind) {i : TypeInfo} (ht : P.underlying t = some (.slice e)) (hi : P.info? e = some i) (hsz : i.size = 1) (A : Option Addr) (c : Nat) (xs : List α) (j : Int) (h0 : 0 ≤ j) (hm : j ≤ xs.length) (hc : xs.length ≤ c) :
    ∃ A' : Option Addr, (∀ W : World, (Instr.slice t (.slice A xs.length c) (some (.int kl j)) none none).run P W = .ok (.slice A' (xs.drop j.toNat).length (c - j.toNat)) W) ∧
      (∀ w : World, ReadsOf enc d w A xs.length xs → ReadsOf enc d w A' (xs.drop j.toNat).length (xs.drop j.toNat)) ∧ (xs.drop j.toNat).length ≤ c - j.toNat := by
  obtain ⟨m, rfl⟩ := Int.eq_ofNat_of_zero_le h0
  simp only [Int.toNat_natCast]
  have hmn : m ≤ xs.length := by omega
  obtain ⟨A', h1, h2⟩ := print_cut_of (P := P) enc d t e kl ht hi hsz A xs.length c m hmn
  have hl : (xs.drop m).length = xs.length - m := List.length_drop
  exact ⟨A', fun W => by rw [hl]; exact h1 W, fun w h => by rw [hl]; exact h2 w xs hc h, by rw [hl]; omega⟩
end
section
variable {P : Program} {ops : Array Oper} {rest : List Oper} {o : Oper} {a : Act} {Q : Exit → Act → World → Prop}
end
structure Kd (α : Type) where
  sz : Nat
  E : List Nat
  K : World → α → List Value → Prop
  M : World → Nat → (Nat → Prop) → α → List Value → Prop
  K_len : ∀ {w x cs}, K w x cs → cs.length = sz
  K_one : ∀ {w x cs}, K w x cs → ∀ u ∈ cs, u.oneCell' = true
  K_below : ∀ {w w1 : World} {x cs}, Below w.heap.size w w1 → K w x cs → K w1 x cs
  K_of_M : ∀ {w base ok x cs}, M w base ok x cs → K w x cs
  M_mono : ∀ {w base ok ok' x cs}, (∀ k, ok k → ok' k) → M w base ok x cs → M w base ok' x cs
  M_bound : ∀ {w : World} {base ok x cs}, M w base ok x cs → M w base (fun k => ok k ∧ base ≤ k ∧ k < w.heap.size ∧ ∃ q, q ∈ E ∧ ∃ cells, w.heap[k]? = some (.cells cells q (0, 0))) x cs
  M_move : ∀ {w w1 : World} {base ok x cs}, (∀ k, ok k → w1.heap[k]? = w.heap[k]?) → M w base ok x cs → M w1 base ok x cs
  M_lower : ∀ {w base base' ok x cs}, base' ≤ base → M w base ok x cs → M w base' ok x cs
theorem own_move {w w1 : World} {base : Nat} {e : TypeId} {size n : Nat} {v : Value} {xs : List Value} (h : w.ownsRow base e size v n xs) (hm : ∀ k, v.ownBlock = some k → w1.heap[k]? = w.heap[k]?) : w1.ownsRow base e size v n xs := by
  obtain ⟨h1, h2⟩ := h
  refine ⟨h1, ?_⟩
  rcases h2 with h2 | ⟨g, cap, cur, rfl, hg, hh, r⟩
  · exact .inl h2
  · exact .inr ⟨g, cap, cur, rfl, hg, (hm g (by simp [Value.ownBlock])).trans hh, r⟩
theorem own_typed {w : World} {base : Nat} {e : TypeId} {size n : Nat} {v : Value} {xs : List Value} (h : w.ownsRow base e size v n xs) (k : Nat) (hk : v.ownBlock = some k) : ∃ cells, w.heap[k]? = some (.cells cells e (0, 0)) := by
  rcases h.2 with ⟨rfl, _⟩ | ⟨g, cap, cur, rfl, hg, hh, r⟩
  · simp [Value.ownBlock] at hk
  · have : g = k := by simpa [Value.ownBlock] using hk
    subst this
    exact ⟨cur, hh⟩
namespace Kd
def C {α : Type} (d : Kd α) (w : World) (A : Option Addr) (n : Nat) (xs : List α) : Prop := ReadsRow (d.K w) d.sz w A n xs
def R {α : Type} (d : Kd α) (e : Nat) (w : World) (base : Nat) (ok : Nat → Prop) (v : Value) (xs : List α) : Prop :=
  (∀ k, v.ownBlock = some k → ok k) ∧ OwnRow (d.M w base (fun k => ok k ∧ some k ≠ v.ownBlock)) e d.sz w base v xs
section
variable {α : Type} {d : Kd α} {e : Nat} {w w1 : World} {base : Nat} {ok ok' : Nat → Prop} {v : Value} {xs : List α}
theorem C_below {A : Option Addr} {n : Nat} (h : d.C w A n xs) (hb : Below w.heap.size w w1) : d.C w1 A n xs := ReadsRow.imp_ h hb (fun _ _ hp => d.K_below hb hp)
theorem R_nil (d : Kd α) (e : Nat) (w : World) (base : Nat) (ok : Nat → Prop) : d.R e w base ok (.slice none 0 0) [] := ⟨fun k hk => by simp [Value.ownBlock] at hk, OwnRow.none_ _ _ _ _ _⟩
theorem R_mono (h : d.R e w base ok v xs) (hok : ∀ k, ok k → ok' k) : d.R e w base ok' v xs := ⟨fun k hk => hok k (h.1 k hk), h.2.imp_ (fun _ _ hp => d.M_mono (fun k hk => ⟨hok k hk.1, hk.2⟩) hp)⟩
theorem R_bound (h : d.R e w base ok v xs) : d.R e w base (fun k => ok k ∧ base ≤ k ∧ k < w.heap.size ∧ ∃ q, q ∈ e :: d.E ∧ ∃ cells, w.heap[k]? = some (.cells cells q (0, 0))) v xs := by
  obtain ⟨h0, inner, ho, hr⟩ := h
  refine ⟨fun k hk => ?_, inner, ho, hr.imp_ (fun _ _ hp => d.M_mono (fun k hk => ?_) (d.M_bound hp))⟩
  · obtain ⟨cells, hc⟩ := own_typed ho k hk
    exact ⟨h0 k hk, own_base ho k hk, own_lt ho k hk, e, List.mem_cons_self, cells, hc⟩
  · obtain ⟨⟨h1, h2⟩, h3, h4, q, hq, hc⟩ := hk
    exact ⟨⟨h1, h3, h4, q, List.mem_cons_of_mem _ hq, hc⟩, h2⟩
theorem R_move (h : d.R e w base ok v xs) (hm : ∀ k, ok k → w1.heap[k]? = w.heap[k]?) : d.R e w1 base ok v xs := by
  obtain ⟨h0, inner, ho, hr⟩ := h
  exact ⟨h0, inner, own_move ho (fun k hk => hm k (h0 k hk)), hr.imp_ (fun _ _ hp => d.M_move (fun k hk => hm k hk.1) hp)⟩
theorem R_lower {base' : Nat} (h : d.R e w base ok v xs) (hb : base' ≤ base) : d.R e w base' ok v xs := by
  obtain ⟨h0, inner, ho, hr⟩ := h
  exact ⟨h0, inner, own_weaken ho hb, hr.imp_ (fun _ _ hp => d.M_lower hb hp)⟩
theorem R_step (h : d.R e w base ok v xs) (hm : ∀ k, ok k → k < w.heap.size → w1.heap[k]? = w.heap[k]?) : d.R e w1 base ok v xs :=
  R_mono (R_move (R_bound h) (fun k hk => hm k hk.1 hk.2.2.1)) (fun _ hk => hk.1)
theorem M_step {x : α} {cs : List Value} (h : d.M w base ok x cs) (hm : ∀ k, ok k → k < w.heap.size → w1.heap[k]? = w.heap[k]?) : d.M w1 base ok x cs :=
  d.M_mono (fun _ hk => hk.1) (d.M_move (fun k hk => hm k hk.1 hk.2.2.1) (d.M_bound h))
theorem R_below (h : d.R e w base ok v xs) (hb : Below w.heap.size w w1) : d.R e w1 base ok v xs := R_step h (fun k _ hk => hb.block k hk)
theorem M_below {x : α} {cs : List Value} (h : d.M w base ok x cs) (hb : Below w.heap.size w w1) : d.M w1 base ok x cs := M_step h (fun k _ hk => hb.block k hk)
theorem R_far (h : d.R e w base ok v xs) {p : Addr} (hok : ∀ k, ok k → k ≠ p.block) (u : Value) : d.R e (w.setCell p u) base ok v xs := R_step h (fun k ho _ => Below.heap_setCell w p u k (hok k ho))
theorem R_types (h : d.R e w base ok v xs) {g t : Nat} {cells : Array Value} (hb : w.heap[g]? = some (.cells cells t (0, 0))) (ht : ∀ q, q ∈ e :: d.E → q ≠ t) : d.R e w base (fun k => ok k ∧ k ≠ g) v xs :=
  R_mono (R_bound h) (fun k hk => ⟨hk.1, by
    obtain ⟨_, _, _, q, hq, cells', hc⟩ := hk
    rintro rfl
    rw [hc] at hb
    injection hb with hb
    injection hb with _ hb
    exact ht q hq hb⟩)
theorem R_reads (h : d.R e w base ok v xs) : ∃ A c, v = .slice A xs.length c ∧ xs.length ≤ c ∧ d.C w A xs.length xs := by
  obtain ⟨A, c, he, hl, hr⟩ := OwnRow.reads h.2
  exact ⟨A, c, he, hl, hr.imp_ (Below.refl _ _) (fun _ _ hp => d.K_of_M hp)⟩
theorem R_slice (h : d.R e w base ok v xs) : ∃ A c, v = .slice A xs.length c := by
  obtain ⟨A, c, he, _⟩ := R_reads h
  exact ⟨A, c, he⟩
theorem R_own (h : d.R e w base ok v xs) : ∃ inner, w.ownsRow base e d.sz v xs.length inner := by
  obtain ⟨_, inner, ho, _⟩ := h
  exact ⟨inner, ho⟩
theorem R_ne (h : d.R e w base ok v xs) {g t : Nat} {cells : Array Value} (hb : w.heap[g]? = some (.cells cells t (0, 0))) (ht : e ≠ t) : some g ≠ v.ownBlock := OwnRow.ne_block h.2 hb ht
end
def scalar {α : Type} (enc : α → Value) (h1 : ∀ x, (enc x).oneCell' = true) : Kd α where
  sz := 1
  E := []
  K := fun _ x cs => cs = [enc x]
  M := fun _ _ _ x cs => cs = [enc x]
  K_len := fun h => by rw [h]; rfl
  K_one := fun h u hu => by
    rw [h] at hu
    rw [List.mem_singleton.1 hu]
    exact h1 _
  K_below := fun _ h => h
  K_of_M := fun h => h
  M_mono := fun _ h => h
  M_bound := fun h => h
  M_move := fun _ h => h
  M_lower := fun _ h => h
def int (k : IntKind) : Kd Int := scalar (Value.int k) (fun _ => rfl)
def bool : Kd Bool := scalar Value.bool (fun _ => rfl)
def string : Kd ByteArray := scalar Value.string (fun _ => rfl)
def slice {α : Type} (e : Nat) (d : Kd α) : Kd (List α) where
  sz := 1
  E := e :: d.E
  K := fun w xs cs => ∃ A c, cs = [.slice A xs.length c] ∧ xs.length ≤ c ∧ d.C w A xs.length xs
  M := fun w base ok xs cs => ∃ v, cs = [v] ∧ d.R e w base ok v xs
  K_len := by
    rintro w x cs ⟨A, c, rfl, _⟩
    rfl
  K_one := by
    rintro w x cs ⟨A, c, rfl, _⟩ u hu
    rw [List.mem_singleton.1 hu]
    rfl
  K_below := by
    rintro w w1 x cs hb ⟨A, c, rfl, hl, hr⟩
    exact ⟨A, c, rfl, hl, C_below hr hb⟩
  K_of_M := by
    rintro w base ok x cs ⟨v, rfl, h⟩
    obtain ⟨A, c, rfl, hl, hr⟩ := R_reads h
    exact ⟨A, c, rfl, hl, hr⟩
  M_mono := by
    rintro w base ok ok' x cs hok ⟨v, rfl, h⟩
    exact ⟨v, rfl, R_mono h hok⟩
  M_bound := by
    rintro w base ok x cs ⟨v, rfl, h⟩
    exact ⟨v, rfl, R_bound h⟩
  M_move := by
    rintro w w1 base ok x cs hm ⟨v, rfl, h⟩
    exact ⟨v, rfl, R_move h hm⟩
  M_lower := by
    rintro w base base' ok x cs hb ⟨v, rfl, h⟩
    exact ⟨v, rfl, R_lower h hb⟩
def pair {α β : Type} (a : Kd α) (b : Kd β) : Kd (α × β) where
  sz := a.sz + b.sz
  E := a.E ++ b.E
  K := fun w x cs => ∃ c0 c1, cs = c0 ++ c1 ∧ a.K w x.1 c0 ∧ b.K w x.2 c1
  M := fun w base ok x cs => ∃ c0 c1, cs = c0 ++ c1 ∧ a.M w base ok x.1 c0 ∧ b.M w base ok x.2 c1
  K_len := by
    rintro w x cs ⟨c0, c1, rfl, h0, h1⟩
    rw [List.length_append, a.K_len h0, b.K_len h1]
  K_one := by
    rintro w x cs ⟨c0, c1, rfl, h0, h1⟩ u hu
    rcases List.mem_append.1 hu with hu | hu
    · exact a.K_one h0 u hu
    · exact b.K_one h1 u hu
  K_below := by
    rintro w w1 x cs hb ⟨c0, c1, rfl, h0, h1⟩
    exact ⟨c0, c1, rfl, a.K_below hb h0, b.K_below hb h1⟩
  K_of_M := by
    rintro w base ok x cs ⟨c0, c1, rfl, h0, h1⟩
    exact ⟨c0, c1, rfl, a.K_of_M h0, b.K_of_M h1⟩
  M_mono := by
    rintro w base ok ok' x cs hok ⟨c0, c1, rfl, h0, h1⟩
    exact ⟨c0, c1, rfl, a.M_mono hok h0, b.M_mono hok h1⟩
  M_bound := by
    rintro w base ok x cs ⟨c0, c1, rfl, h0, h1⟩
    refine ⟨c0, c1, rfl, a.M_mono ?_ (a.M_bound h0), b.M_mono ?_ (b.M_bound h1)⟩
    · rintro k ⟨h2, h3, h4, q, hq, hc⟩
      exact ⟨h2, h3, h4, q, List.mem_append_left _ hq, hc⟩
    · rintro k ⟨h2, h3, h4, q, hq, hc⟩
      exact ⟨h2, h3, h4, q, List.mem_append_right _ hq, hc⟩
  M_move := by
    rintro w w1 base ok x cs hm ⟨c0, c1, rfl, h0, h1⟩
    exact ⟨c0, c1, rfl, a.M_move hm h0, b.M_move hm h1⟩
  M_lower := by
    rintro w base base' ok x cs hb ⟨c0, c1, rfl, h0, h1⟩
    exact ⟨c0, c1, rfl, a.M_lower hb h0, b.M_lower hb h1⟩
def iso {α β : Type} (d : Kd α) (f : β → α) : Kd β where
  sz := d.sz
  E := d.E
  K := fun w x cs => d.K w (f x) cs
  M := fun w base ok x cs => d.M w base ok (f x) cs
  K_len := d.K_len
  K_one := d.K_one
  K_below := d.K_below
  K_of_M := d.K_of_M
  M_mono := d.M_mono
  M_bound := d.M_bound
  M_move := d.M_move
  M_lower := d.M_lower
theorem C_get {α : Type} {d : Kd α} {w : World} {A : Option Addr} {n : Nat} {xs : List α} (h : d.C w A n xs) (z : α) (i : Int) (h0 : 0 ≤ i) (h1 : i < n) :
    ∃ ad c, A = some ad ∧ c.length = d.sz ∧ d.K w (xs.getD i.toNat z) c ∧ ∀ j u, c[j]? = some u → w.cell? (ad.add (i.toNat * d.sz + j)) = some u := ReadsRow.get_ h z i h0 h1
theorem R_appended {α : Type} {d : Kd α} {e base : Nat} {ok okp : Nat → Prop} {W w1 : World} {v v1 : Value} {xs : List α} {p : α} {inner cs : List Value} (h0 : ∀ k, v.ownBlock = some k → ok k) (hr : Reps (d.M W base (fun k => ok k ∧ some k ≠ v.ownBlock)) d.sz xs inner) (hp : d.M W base okp p cs) (hokp : ∀ k, okp k → ok k ∧ some k ≠ v.ownBlock) (hfresh : ∀ k, W.heap.size ≤ k → ok k)
    (hown : w1.ownsRow base e d.sz v1 (xs.length + 1) (inner ++ cs)) (hg : W.grownBy w1 v.ownBlock) (hat : v1.ownBlock = v.ownBlock ∨ ∃ b, v1.ownBlock = some b ∧ W.heap.size ≤ b) : d.R e w1 base ok v1 (xs ++ [p]) := by
  have hne : ∀ k, some k ≠ v.ownBlock → k < W.heap.size → some k ≠ v1.ownBlock := by
    intro k hk hlt
    rcases hat with hat | ⟨b, hb, hle⟩
    · rw [hat]; exact hk
    · rw [hb]
      intro he
      injection he with he
      omega
  have step : ∀ {q : α} {c : List Value} {o : Nat → Prop}, d.M W base o q c → (∀ k, o k → ok k ∧ some k ≠ v.ownBlock) → d.M w1 base (fun k => ok k ∧ some k ≠ v1.ownBlock) q c := by
    intro q c o hq ho
    have h1 := d.M_move (w1 := w1) (fun k hk => hg.block k hk.2.2.1 (ho k hk.1).2) (d.M_bound hq)
    exact d.M_mono (fun k hk => ⟨(ho k hk.1).1, hne k (ho k hk.1).2 hk.2.2.1⟩) h1
  refine ⟨fun k hk => ?_, inner ++ cs, by rw [List.length_append, List.length_singleton]; exact hown, ?_⟩
  · rcases hat with hat | ⟨b, hb, hle⟩
    · exact h0 k (hat ▸ hk)
    · rw [hb] at hk
      injection hk with hk
      exact hfresh k (by omega)
  · exact (hr.imp_ (fun _ _ hq => step hq (fun _ hk => hk))).snoc (step hp hokp) (d.K_len (d.K_of_M hp))
section
variable {P : Program} {ops : Array Oper} {rest : List Oper} {o : Oper} {a : Act} {Q : Exit → Act → World → Prop} {α : Type}
theorem R_append (d : Kd α) {w0 W : World} (base : Nat) (hgd : o.guard = none) (s x : Operand) (t e : TypeId) (z : Value) (bytes : Nat)
    (ho : o.op = .call { callee := .builtin .append, args := #[s, x], argTypes := #[t, t] })
    (ht : P.underlying t = some (.slice e)) (hinfo : (P.info? e).map (fun i => (i.zero, i.size, i.bytes)) = some (some z, d.sz, bytes)) (hz : z.cells.size = d.sz) (hs0 : 0 < d.sz) (hb0 : 0 < bytes)
    (v : Value) (xs : List α) (p : α) (cs : List Value) (ok okp : Nat → Prop) (hs : a.eval s = v) (hx : a.eval x = .slice (some ⟨W.heap.size, 0, none⟩) 1 1) (hp : d.M W base okp p cs) (hokp : ∀ k, okp k → ok k ∧ some k ≠ v.ownBlock) (hfresh : ∀ k, W.heap.size ≤ k → ok k)
    (HO : d.R e W base ok v xs) (HB : Below base w0 W) (hbase : base ≤ W.heap.size) (hl : (xs.length + 1) * bytes ≤ 140737488355328)
    (h : ∀ v1 w1, d.R e w1 base ok v1 (xs ++ [p]) → Below base w0 w1 → W.grownBy w1 v.ownBlock → (v1.ownBlock = v.ownBlock ∨ ∃ b, v1.ownBlock = some b ∧ W.heap.size ≤ b) → wpList P ops Q rest (a.put o.dst v1) w1) :
    wpList P ops Q (o :: rest) a (W.alloc (.cells cs.toArray e)) := by
  obtain ⟨h0, inner, hown, hr⟩ := HO
  refine print_append_cells base hgd s x t e z d.sz bytes ho ht hinfo hz hs0 hb0 v xs.length inner cs hs hx (d.K_len (d.K_of_M hp)) (d.K_one (d.K_of_M hp)) hown HB hbase hl ?_
  intro v1 w1 hown1 hb1 hg1 hat1
  exact h v1 w1 (R_appended h0 hr hp hokp hfresh hown1 hg1 hat1) hb1 hg1 hat1
end
section
variable {P : Program} {ops : Array Oper} {o : Oper} {a : Act} {Q : Exit → Act → World → Prop} {Kc : Act → World → Prop} {α : Type}
end
theorem C_of_reads {α : Type} {enc : α → Value} {d : α} {h1 : ∀ x, (enc x).oneCell' = true} {w : World} {A : Option Addr} {n : Nat} {xs : List α} (h : ReadsOf enc d w A n xs) : (scalar enc h1).C w A n xs := by
  refine ⟨h.1, h.2.1, fun hn => ?_⟩
  obtain ⟨ad, e, hc⟩ := h.2.2 hn
  refine ⟨ad, e, fun j p hj => ⟨[enc p], rfl, rfl, fun i u hu => ?_⟩⟩
  obtain ⟨hl, hp⟩ := List.getElem?_eq_some_iff.1 hj
  have h2 := hc j (by have := h.1; omega)
  rw [List.getD_eq_getElem?_getD, hj] at h2
  cases i with
  | zero =>
    have : enc p = u := by simpa using hu
    subst this
    simpa [scalar] using h2
  | succ i => simp at hu
theorem reads_of_C {α : Type} {enc : α → Value} {d : α} {h1 : ∀ x, (enc x).oneCell' = true} {w : World} {A : Option Addr} {n : Nat} {xs : List α} (h : (scalar enc h1).C w A n xs) : ReadsOf enc d w A n xs := by
  refine ⟨h.1, h.2.1, fun hn => ?_⟩
  obtain ⟨ad, e, hc⟩ := h.2.2 hn
  refine ⟨ad, e, fun j hj => ?_⟩
  have hl : j < xs.length := by have := h.1; omega
  obtain ⟨c, _, hK, hcell⟩ := hc j _ (List.getElem?_eq_getElem hl)
  have hK' : c = [enc xs[j]] := hK
  subst hK'
  have := hcell 0 _ rfl
  simpa [scalar, List.getD_eq_getElem?_getD, List.getElem?_eq_getElem hl] using this
end Kd
namespace Kd
section
variable {α : Type} {F : Kd α → Kd α} {sz : Nat} {E : List Nat} {hs : ∀ n, (upto F sz E n).sz = sz} {hE : ∀ n q, q ∈ (upto F sz E n).E → q ∈ E}
end
end Kd
namespace Kd
theorem R_after {α : Type} {d : Kd α} {e base : Nat} {ok : Nat → Prop} {W w1 : World} {u v v1 : Value} {xs : List α} (h : d.R e W base (fun k => ok k ∧ some k ≠ v.ownBlock) u xs) (hg : W.grownBy w1 v.ownBlock) (hat : v1.ownBlock = v.ownBlock ∨ ∃ b, v1.ownBlock = some b ∧ W.heap.size ≤ b) : d.R e w1 base (fun k => ok k ∧ some k ≠ v1.ownBlock) u xs := by
  refine R_mono (R_move (R_bound h) (fun k hk => hg.block k hk.2.2.1 hk.1.2)) (fun k hk => ⟨hk.1.1, ?_⟩)
  rcases hat with hat | ⟨b, hb, hle⟩
  · rw [hat]; exact hk.1.2
  · rw [hb]
    intro he
    injection he with he
    have := hk.2.2.1
    omega
end Kd
namespace Kd
section
variable {α β : Type} {d : Kd α} {d' : Kd β} {e e' : Nat} {w w1 W : World} {base b b' : Nat} {ok ok' okv oku : Nat → Prop} {v u : Value} {xs : List α} {ys : List β}
theorem R_drew (h : d.R e w base ok v xs) : d.R e w.drew base ok v xs := R_below h (below_drew (Below.refl _ _))
theorem R_drewN (h : d.R e w base ok v xs) (m : Nat) : d.R e (w.drewN m) base ok v xs := R_below h (pw_below_drewN (Below.refl _ _) m)
theorem R_reads' {A : Option Addr} {n c : Nat} (h : d.R e w base ok (.slice A n c) xs) : n = xs.length ∧ n ≤ c ∧ d.C w A xs.length xs := by
  obtain ⟨A', c', he, hl, hr⟩ := R_reads h
  injection he with h1 h2 h3
  subst h1
  exact ⟨h2, by omega, hr⟩
theorem R_lt (h : d.R e w base ok v xs) : ∀ k, v.ownBlock = some k → k < w.heap.size := by
  obtain ⟨inner, ho⟩ := R_own h
  exact own_lt ho
end
section
variable {w W : World} {A : Option Addr} {n : Nat}
theorem at_int {k : IntKind} {xs : List Int} (h : (Kd.int k).C w A n xs) (i : Int) (h0 : 0 ≤ i) (h1 : i < n) : ∃ ad, A = some ad ∧ w.cell? (ad.add i.toNat) = some (.int k (rd xs i)) :=
  ReadsOf.at_ (reads_of_C (enc := Value.int k) (d := (0 : Int)) (h1 := fun _ => rfl) h) i h0 h1
theorem at_string {xs : List ByteArray} (h : Kd.string.C w A n xs) (i : Int) (h0 : 0 ≤ i) (h1 : i < n) : ∃ ad, A = some ad ∧ w.cell? (ad.add i.toNat) = some (.string (rdOf ByteArray.empty xs i)) :=
  ReadsOf.at_ (reads_of_C (enc := Value.string) (d := ByteArray.empty) (h1 := fun _ => rfl) h) i h0 h1
variable {α : Type} {enc : α → Value} {h1 : ∀ x, (enc x).oneCell' = true} {e base g cap : Nat} {ok : Nat → Prop} {xs : List α}
end
section
variable {P : Program} {ops : Array Oper} {rest : List Oper} {o : Oper} {a : Act} {Q : Exit → Act → World → Prop}
theorem event_run {W w1 : World} {v : Value} (hgd : o.guard = none) (hrun : (execOp a.eval o).run P W = .ok (.value v) w1) (h : wpList P ops Q rest (a.put o.dst v) w1) : wpList P ops Q (o :: rest) a W := by
  refine wpList_plain hgd fun K hK => ?_
  unfold Oper.wp
  rw [hrun]
  exact hK _ _ h
variable {α : Type}
theorem R_lit (d : Kd α) {w0 W : World} (base e : Nat) (hgd : o.guard = none) {N : Tmp} (_hd : o.dst = some N) {xs : List α} {inner : List Value} {ok okp : Nat → Prop}
    (hrun : (execOp a.eval o).run P W = .ok (.value (.slice (some ⟨W.heap.size, 0, none⟩) xs.length xs.length)) (W.alloc (.cells inner.toArray e)))
    (hrep : Reps (d.M W base okp) d.sz xs inner) (hok : ∀ k, okp k → ok k) (hfresh : ok W.heap.size) (HB : Below base w0 W) (hbase : base ≤ W.heap.size) (hm : xs.length ≤ 9223372036854775807)
    (h : ∀ v1 w1, d.R e w1 base ok v1 xs → Below base w0 w1 → W.grownBy w1 none → (∃ b, v1.ownBlock = some b ∧ W.heap.size ≤ b) → wpList P ops Q rest (a.put o.dst v1) w1) : wpList P ops Q (o :: rest) a W := by
  refine event_run hgd hrun (h _ _ ⟨fun k hk => ?_, inner, ?_, ?_⟩ (HB.alloc hbase _) (World.grownBy_alloc W _ none) ⟨W.heap.size, by simp [Value.ownBlock], Nat.le_refl _⟩)
  · have : W.heap.size = k := by simpa [Value.ownBlock] using hk
    subst this
    exact hfresh
  · have h2 := World.ownsRow_lit (base := base) (e := e) (size := d.sz) W inner.toArray xs.length hbase (by simpa [maxLen] using hm) (by simpa using hrep.1)
    simpa using h2
  · refine hrep.imp_ (fun p c hp => d.M_mono (fun k hk => ⟨hok k hk.1, fun he => ?_⟩) (M_below (d.M_bound hp) (below_alloc (Below.refl _ _) _)))
    have h3 : k = W.heap.size := by simpa [Value.ownBlock] using he
    have := hk.2.2.1
    omega
end
end Kd
section
variable {P : Program}
theorem cut_to (t e : TypeId) (kh : IntKind) {i : TypeInfo} (ht : P.underlying t = some (.slice e)) (hi : P.info? e = some i) (A : Option Addr) (n c : Nat) (j : Int) (h0 : 0 ≤ j) (hm : j ≤ n) (hc : n ≤ c) :
    ∀ W : World, (Instr.slice t (.slice A n c) none (some (.int kh j)) none).run P W = .ok (.slice A j.toNat c) W := by
  intro W
  have hel : P.elem t = e := by simp [Program.elem, ht]
  have hu : P.underlying t = some (.slice (P.elem t)) := by rw [hel]; exact ht
  have ha : (A.map fun x => x.add 0) = A := by cases A <;> simp [Addr.add]
  rw [run_slice_h W t A n c hu kh j h0 (by omega), hel]
  simp [sizeOf, typeInfo, hi, sliced, Result.andThen, ha]
theorem cut_from (t e : TypeId) (kl : IntKind) {i : TypeInfo} (ht : P.underlying t = some (.slice e)) (hi : P.info? e = some i) (size : Nat) (hsz : i.size = size) (A : Option Addr) (n c : Nat) (j : Int) (h0 : 0 ≤ j) (hm : j ≤ n) :
    ∀ W : World, (Instr.slice t (.slice A n c) (some (.int kl j)) none none).run P W = .ok (.slice (if c = j.toNat then A else A.map (·.add (j.toNat * size))) (n - j.toNat) (c - j.toNat)) W := by
  intro W
  have hel : P.elem t = e := by simp [Program.elem, ht]
  have hu : P.underlying t = some (.slice (P.elem t)) := by rw [hel]; exact ht
  rw [run_slice_l W t A n c hu kl j h0 hm, hel]
  simp [sizeOf, typeInfo, hi, hsz, sliced, Result.andThen]
end
section
variable {w w1 : World} {base n size : Nat} {e : TypeId} {v : Value} {xs : List Value}
theorem add_at (g o j : Nat) : (⟨g, o, none⟩ : Addr).add j = ⟨g, o + j, none⟩ := by unfold Addr.add; split <;> simp_all
end
section
variable {P : Program}
end
namespace Kd
section
variable {α : Type} {d : Kd α} {e : Nat} {w w1 W : World} {base : Nat} {ok ok' : Nat → Prop} {v : Value} {xs : List α}
end
section
variable {P : Program} {ops : Array Oper} {rest : List Oper} {o : Oper} {a : Act} {Q' : Exit → Act → World → Prop} {Kc : Act → World → Prop} {α : Type}
end
end Kd
namespace Kd
section
variable {α : Type} {d : Kd α} {e e' : Nat} {w w1 W : World} {base : Nat} {ok : Nat → Prop} {u v : Value} {xs : List α}
theorem R_typed (h : d.R e w base ok v xs) : ∀ k, v.ownBlock = some k → ∃ cells, w.heap[k]? = some (.cells cells e (0, 0)) := by
  obtain ⟨inner, ho⟩ := R_own h
  exact fun k hk => own_typed ho k hk
theorem R_over' (h : d.R e W base ok u xs) (hty : ∀ k, v.ownBlock = some k → ∃ cells, W.heap[k]? = some (.cells cells e' (0, 0))) (ht : ∀ q, q ∈ e :: d.E → q ≠ e') (hg : W.grownBy w1 v.ownBlock) : d.R e w1 base ok u xs := by
  refine R_mono (R_move (R_bound h) (fun k hk => hg.block k hk.2.2.1 (fun he => ?_))) (fun _ hk => hk.1)
  obtain ⟨_, _, _, q, hq, cells, hc⟩ := hk
  obtain ⟨cells', hc'⟩ := hty k he.symm
  rw [hc] at hc'
  injection hc' with hc'
  injection hc' with _ hc'
  exact ht q hq hc'
theorem R_new' (h : d.R e w1 W.heap.size ok v xs) (hlt : ∀ k, u.ownBlock = some k → k < W.heap.size) : d.R e w1 W.heap.size (fun k => ok k ∧ some k ≠ u.ownBlock) v xs :=
  R_mono (R_bound h) (fun k hk => ⟨hk.1, fun he => by have := hlt k he.symm; have := hk.2.1; omega⟩)
end
end Kd
namespace Kd
section
variable {α : Type} {d : Kd α} {e base g n cap : Nat} {ok okp : Nat → Prop} {W : World} {xs : List α}
theorem R_elem (h : d.R e W base ok (.slice (some ⟨g, 0, none⟩) n cap) xs) (z : α) (i : Int) (h0 : 0 ≤ i) (h1 : i < n) :
    ∃ c, c.length = d.sz ∧ d.M W base (fun k => ok k ∧ k ≠ g) (xs.getD i.toNat z) c ∧ (∀ j u, c[j]? = some u → W.cell? ⟨g, i.toNat * d.sz + j, none⟩ = some u) ∧ ∀ j, W.frozen? ⟨g, i.toNat * d.sz + j, none⟩ = false := by
  obtain ⟨hn, hnc, hC⟩ := R_reads' h
  obtain ⟨_, inner, ho, hr⟩ := h
  have hil : i.toNat < xs.length := by omega
  have hseg : i.toNat * d.sz + d.sz ≤ inner.length := by rw [hr.1, ← Nat.succ_mul]; exact Nat.mul_le_mul_right _ hil
  have hM := hr.2 i.toNat _ (List.getElem?_eq_getElem hil)
  refine ⟨(inner.drop (i.toNat * d.sz)).take d.sz, by rw [List.length_take, List.length_drop]; omega, ?_, fun j u hu => ?_, fun j => ?_⟩
  · rw [List.getD_eq_getElem?_getD, List.getElem?_eq_getElem hil]
    exact d.M_mono (fun k hk => ⟨hk.1, fun he => hk.2 (by rw [he]; simp [Value.ownBlock])⟩) hM
  · rw [List.getElem?_take] at hu
    split at hu
    · rw [List.getElem?_drop] at hu
      have := ho.cells (g := g) (by simp [Value.ownBlock]) _ u hu
      rwa [add_plain] at this
    · cases hu
  · obtain ⟨cells, hc⟩ := own_typed ho g (by simp [Value.ownBlock])
    exact blk_frozen hc _
end
end Kd
namespace Kd
section
variable {α : Type} {F : Kd α → Kd α} {sz : Nat} {E : List Nat} {hs : ∀ n, (upto F sz E n).sz = sz} {hE : ∀ n q, q ∈ (upto F sz E n).E → q ∈ E}
end
end Kd
namespace Kd
section
variable {P : Program} {ops : Array Oper} {rest : List Oper} {o : Oper} {a : Act} {Q : Exit → Act → World → Prop} {α : Type}
end
end Kd
namespace Kd
section
variable {P : Program} {ops : Array Oper} {rest : List Oper} {o : Oper} {a : Act} {Q : Exit → Act → World → Prop} {α : Type}
end
end Kd
theorem add_add (a : Addr) (i j : Nat) : (a.add i).add j = a.add (i + j) := by
  unfold Addr.add
  by_cases h1 : i = 0 <;> by_cases h2 : j = 0 <;> simp [h1, h2, Nat.add_assoc]
namespace Kd
section
variable {α : Type} {k : Kd α} {w : World} {A : Option Addr} {xs : List α} {m c : Nat}
theorem C_take (h : k.C w A xs.length xs) (hm : m ≤ xs.length) : k.C w A (xs.take m).length (xs.take m) := by
  have hl : (xs.take m).length = m := by rw [List.length_take]; omega
  refine ⟨rfl, by rw [hl]; have := h.2.1; omega, fun hp => ?_⟩
  obtain ⟨ad, e, hc⟩ := h.2.2 (by omega)
  refine ⟨ad, e, fun j p hj => hc j p ?_⟩
  rw [List.getElem?_take] at hj
  split at hj
  · exact hj
  · cases hj
theorem C_drop (h : k.C w A xs.length xs) (hm : m ≤ xs.length) (hc : xs.length ≤ c) : k.C w (if c = m then A else A.map (·.add (m * k.sz))) (xs.drop m).length (xs.drop m) := by
  have hl : (xs.drop m).length = xs.length - m := List.length_drop
  refine ⟨rfl, by rw [hl]; have := h.2.1; omega, fun hp => ?_⟩
  rw [hl] at hp
  obtain ⟨ad, rfl, hcell⟩ := h.2.2 (by omega)
  rw [if_neg (by omega)]
  refine ⟨ad.add (m * k.sz), rfl, fun j p hj => ?_⟩
  rw [List.getElem?_drop] at hj
  obtain ⟨cs, h1, h2, h3⟩ := hcell (m + j) p hj
  refine ⟨cs, h1, h2, fun i u hu => ?_⟩
  rw [add_add, show m * k.sz + (j * k.sz + i) = (m + j) * k.sz + i by rw [Nat.add_mul]; omega]
  exact h3 i u hu
end
end Kd
section
variable {P : Program}
end
theorem string_of_reads {P : Program} {w : World} {src dst e : TypeId} {A : Option Addr} {n c : Nat} {xs : List Int} (hs : P.underlying src = some (.slice e)) (he : P.underlying e = some (.int .u8)) (hd : P.underlying dst = some .string)
    (h : ReadsInt w .u8 A n xs) : (convert src dst (.slice A n c)).run P w = .ok (.string (strOfNums xs)) w := by
  have hn : xs.length = n := h.1
  rcases A with _ | ad
  · have h0 : n = 0 := by
      rcases Nat.eq_zero_or_pos n with h0 | h0
      · exact h0
      · obtain ⟨ad, h', _⟩ := h.2.2 h0
        cases h'
    subst h0
    obtain rfl : xs = [] := List.eq_nil_of_length_eq_zero hn
    exact run_convert_bytes_nil w src e hs he 0 c dst hd
  · have hl : (loadCells ad n).run P w = .ok (xs.map (Value.int .u8)).toArray w := by
      have := run_loadCells_list (P := P) w ad (xs.map (Value.int .u8)) (fun j v hj => by
        have hjl : j < xs.length := by
          rcases Nat.lt_or_ge j xs.length with h' | h'
          · exact h'
          · rw [List.getElem?_eq_none (by rw [List.length_map]; exact h')] at hj
            cases hj
        obtain ⟨ad', he', hc⟩ := h.2.2 (by omega)
        injection he' with he'
        subst he'
        rw [hc j (by omega)]
        rw [List.getElem?_map, List.getElem?_eq_getElem hjl] at hj
        simp at hj
        subst hj
        simp [List.getD_eq_getElem?_getD, List.getElem?_eq_getElem hjl])
      simpa [hn] using this
    rw [run_convert_bytes_string w src dst e _ n c hs he hd, run_bytesToString w ad n c xs hl, foldl_push_bytes]
    simp [strOfNums, ByteArray.empty, ByteArray.emptyWithCapacity]
    rfl
theorem Kd.C_string {P : Program} {w : World} {src dst e : TypeId} {A : Option Addr} {n c : Nat} {xs : List Int} (hs : P.underlying src = some (.slice e)) (he : P.underlying e = some (.int .u8)) (hd : P.underlying dst = some .string)
    (h : (Kd.int .u8).C w A n xs) : (convert src dst (.slice A n c)).run P w = .ok (.string (strOfNums xs)) w :=
  string_of_reads hs he hd (Kd.reads_of_C (enc := Value.int .u8) (d := (0 : Int)) (h1 := fun _ => rfl) h)
theorem below_size {w W : World} (h : Below w.heap.size w W) : w.heap.size ≤ W.heap.size := h.size
theorem below_step {w W w2 : World} (h : Below w.heap.size w W) (k : Below W.heap.size W w2) : Below w.heap.size w w2 := below_then h h.size k
theorem below_set {w W : World} {g j : Nat} {v : Value} (h : Below w.heap.size w W) (hg : w.heap.size ≤ g) : Below w.heap.size w (W.setCell ⟨g, j, none⟩ v) := h.setCell hg _
theorem blk_put {w : World} {g : Nat} {t : TypeId} {cs cs' : Array Value} (h : w.heap[g]? = some (.cells cs t (0, 0))) (i : Nat) (u : Value) (e : cs.setIfInBounds i u = cs') : (w.setCell ⟨g, i, none⟩ u).heap[g]? = some (.cells cs' t (0, 0)) := e ▸ blk_set h i u
theorem below_drew1 {base : Nat} {w W : World} (h : Below base w W) : Below base w W.drew := h.drew
namespace Kd
section
variable {α β : Type} {d : Kd α} {d' : Kd β} {e e' base base' n : Nat} {ok ok' : Nat → Prop} {w W w1 W1 : World} {v u : Value} {xs : List α} {ys : List β} {A : Option Addr} {c : Nat}
end
section
variable {α : Type} {enc : α → Value} {h1 : ∀ x, (enc x).oneCell' = true} {w W : World} {A : Option Addr} {n g : Nat} {xs : List α}
end
end Kd
namespace Kd
section
variable {α : Type} {d : Kd α} {e base g : Nat} {ok : Nat → Prop} {w w1 : World} {v : Value} {xs : List α} {o : Obj}
theorem R_elderB (h : d.R e w base ok v xs) (a : Nat) (ha : w.heap.size ≤ a) : d.R e w base (fun k => ok k ∧ k ≠ a) v xs := R_mono (R_bound h) (fun k hk => ⟨hk.1, by have := hk.2.2.1; omega⟩)
end
end Kd
section
variable {P : Program} {ops : Array Oper} {rest : List Oper} {o : Oper} {a : Act} {Q : Exit → Act → World → Prop}
theorem box_event {W : World} (hgd : o.guard = none) {N : Tmp} (_hd : o.dst = some N) {cs : Array Value} {t : TypeId}
    (hrun : (execOp a.eval o).run P W = .ok (.value (.pointer (some ⟨W.heap.size, 0, none⟩))) (W.alloc (.cells cs t (0, 0))))
    (h : ∀ g, g = W.heap.size → ∀ w1, w1.heap[g]? = some (.cells cs t (0, 0)) → Below W.heap.size W w1 → wpList P ops Q rest (a.put o.dst (.pointer (some ⟨g, 0, none⟩))) w1) : wpList P ops Q (o :: rest) a W :=
  Kd.event_run hgd hrun (h _ rfl _ (blk_new W _) (below_alloc (Below.refl _ _) _))
end
namespace Kd
section
variable {α : Type} {enc : α → Value} {h1 : ∀ x, (enc x).oneCell' = true} {e base g n cap : Nat} {ok : Nat → Prop} {W : World} {xs : List α}
end
end Kd
section
variable {P : Program} {ops : Array Oper} {rest : List Oper} {o : Oper} {a : Act} {Q : Exit → Act → World → Prop}
end
namespace Kd
section
variable {α : Type} {enc : α → Value} {h1 : ∀ x, (enc x).oneCell' = true} {e base g n cap : Nat} {ok : Nat → Prop} {W : World} {xs : List α}
end
end Kd
section
variable {P : Program} {ops : Array Oper} {rest : List Oper} {o : Oper} {a : Act} {Q : Exit → Act → World → Prop} {W : World}
theorem gate_dst {N : Tmp} (_hN : o.dst = some N) (h : wpList P ops Q (o :: rest) a W) : wpList P ops Q (o :: rest) a W := h
end
section
variable {P : Program} {ops : Array Oper} {o : Oper} {a : Act} {Q : Exit → Act → World → Prop} {Kc : Act → World → Prop}
namespace Kd
variable {α : Type}
end Kd
end
section
variable {P : Program} {tmps : Array Value} {w : World}
end
namespace Kd
section
variable {P : Program} {α : Type}
end
section
variable {P : Program} {ops : Array Oper} {rest : List Oper} {o : Oper} {a : Act} {Q : Exit → Act → World → Prop} {Kc : Act → World → Prop} {α : Type}
end
end Kd
end Go.Proofs.YtoimkmoalmmooaaW.PrintWords
namespace Go.Proofs.Ytoimkmoalmmooaa.PrX
open Go.RowKit Go.Proofs.YtoimkmoalmmooaaW.PrintWords
theorem prx_ne (l : List UInt8) : (l != []) = !l.isEmpty := by cases l <;> rfl
end Go.Proofs.Ytoimkmoalmmooaa.PrX
namespace Go.Proofs.Ytoimkmoalmmooaa.Given
end Go.Proofs.Ytoimkmoalmmooaa.Given
namespace Go.Proofs.YtoimkmoalmmooaaW.PrintLast
section
variable {P : Program} {ops : Array Oper} {Q : Exit → Act → World → Prop} {md : Region.Mode} {S : World → Prop} {ds : List Nat}
def Region.reachB (md : Region.Mode) (ops : Array Oper) (i : Nat) : Nat → Nat → Bool
  | 0, _ => false
  | fuel + 1, d => match ops[d]? with
    | some o => o.after.any fun e => Region.binds md e && (e.on == i || Region.reachB md ops i fuel e.on)
    | none => false
def Region.closedB (md : Region.Mode) (ops : Array Oper) (listed : Array Bool) : Bool :=
  (List.range ops.size).all fun j => !listed.getD j false || match ops[j]? with
    | some o => o.after.all fun e => !Region.binds md e || listed.getD e.on false
    | none => true
def Region.lastB (md : Region.Mode) (ops : Array Oper) (listed : Array Bool) (ds : List Nat) (i : Nat) : Bool :=
  ds.all fun d => listed.getD d true || Region.reachB md ops i ops.size d
def ListedClosed (md : Region.Mode) (ops : Array Oper) (listed : Array Bool) : Prop :=
  ∀ j oj, ops[j]? = some oj → listed.getD j false = true → ∀ e ∈ oj.after, Region.binds md e = true → listed.getD e.on false = true
theorem Region.closedB_spec {listed : Array Bool} (h : Region.closedB md ops listed = true) : ListedClosed md ops listed := by
  intro j oj hj hl e he hb
  have hlt : j < ops.size := (Array.getElem?_eq_some_iff.1 hj).1
  have h1 := List.all_eq_true.1 h j (List.mem_range.2 hlt)
  simp only [hl, hj, Bool.not_true, Bool.false_or] at h1
  have h2 := Array.all_eq_true_iff_forall_mem.1 h1 e he
  simpa [hb] using h2
theorem ListedClosed.set {listed : Array Bool} {i : Nat} (h : ListedClosed md ops listed) (hi : i ∈ Region.ready md ops listed) : ListedClosed md ops (listed.setIfInBounds i true) := by
  obtain ⟨_, oi, hoi, hall⟩ := mem_ready.1 hi
  intro j oj hj hl e he hb
  by_cases hij : i = j
  · subst hij
    have : oj = oi := Option.some.inj (hj.symm.trans hoi)
    subst this
    exact getD_set_true (hall e he hb)
  · rw [getD_set_ne false hij] at hl
    exact getD_set_true (h j oj hj hl e he hb)
theorem Region.reach_listed {listed : Array Bool} {i : Nat} (hc : ListedClosed md ops listed) : ∀ (fuel d : Nat), Region.reachB md ops i fuel d = true → listed.getD d false = true → listed.getD i false = true
  | 0, _, h, _ => by simp [Region.reachB] at h
  | fuel + 1, d, h, hl => by
    unfold Region.reachB at h
    cases ho : ops[d]? with
    | none => rw [ho] at h; simp at h
    | some o =>
      rw [ho] at h
      obtain ⟨e, he, h1⟩ := Array.any_eq_true'.1 h
      simp only [Bool.and_eq_true, Bool.or_eq_true, beq_iff_eq] at h1
      have hle := hc d o ho hl e he h1.1
      rcases h1.2 with h2 | h2
      · rw [← h2]; exact hle
      · exact Region.reach_listed hc fuel e.on h2 hle
theorem Region.reach_not_ready {listed : Array Bool} {i d fuel : Nat} (hc : ListedClosed md ops listed) (hr : Region.reachB md ops i fuel d = true) (hun : listed.getD i true = false) : d ∉ Region.ready md ops listed := by
  intro hd
  obtain ⟨_, o, ho, hall⟩ := mem_ready.1 hd
  have hi : listed.getD i false = true := by
    cases fuel with
    | zero => simp [Region.reachB] at hr
    | succ n =>
      unfold Region.reachB at hr
      rw [ho] at hr
      obtain ⟨e, he, h1⟩ := Array.any_eq_true'.1 hr
      simp only [Bool.and_eq_true, Bool.or_eq_true, beq_iff_eq] at h1
      have hle := hall e he h1.1
      rcases h1.2 with h2 | h2
      · rw [← h2]; exact hle
      · exact Region.reach_listed hc n e.on h2 hle
  rcases Nat.lt_or_ge i listed.size with h' | h'
  · simp [h'] at hun hi
    rw [hun] at hi
    cases hi
  · simp [Array.getElem?_eq_none h'] at hun
def wpAnyLast (P : Program) (md : Region.Mode) (ops : Array Oper) (Q : Exit → Act → World → Prop) (S : World → Prop) (ds : List Nat) : Nat → Array Bool → Act → World → Prop
  | 0, listed, a, w => Region.ready md ops listed = [] ∧ Q .normal a w
  | fuel + 1, listed, a, w =>
    (Region.ready md ops listed = [] → Q .normal a w) ∧
    ∀ i ∈ Region.ready md ops listed, wpOp P ops Q i (fun a' w' => (i ∉ ds → S w → S w') ∧ wpAnyLast P md ops Q S ds fuel (listed.setIfInBounds i true) a' w') a w
theorem wpAny_of_last : ∀ (fuel : Nat) (listed : Array Bool) (a : Act) (w : World), wpAnyLast P md ops Q S ds fuel listed a w → wpAny P md ops Q fuel listed a w
  | 0, _, _, _, h => h
  | fuel + 1, _, _, _, h => ⟨h.1, fun i hi => wpOp_mono (fun a' w' h' => wpAny_of_last fuel _ a' w' h'.2) (h.2 i hi)⟩
theorem wpAnyLast_first {i : Nat} {oi : Oper} {v : Value} (hi : ops[i]? = some oi) (hsel : ∀ (j : Nat) (o : Oper) cs b, ops[j]? = some o → o.op ≠ .select cs b)
    (hQ : ∀ c a w, Q (.panic c) (a.put oi.dst v) w → Q (.panic c) a w) (n : Nat) :
    ∀ (fuel : Nat) (listed : Array Bool) (a : Act) (w : World),
      (∀ j oj, ops[j]? = some oj → j ≠ i → listed.getD j true = false → (∀ e ∈ oj.after, Region.binds md e = true → e.on ≠ i) → oi.apart ops oj = true) →
      ListedClosed md ops listed → (∀ d ∈ ds, listed.getD d true = false → Region.reachB md ops i n d = true) →
      i ∈ Region.ready md ops listed → YieldsIf P ops S oi v a → S w →
      wpAnyLast P md ops Q S ds fuel (listed.setIfInBounds i true) (a.put oi.dst v) w → wpAnyLast P md ops Q S ds (fuel + 1) listed a w := by
  intro fuel
  induction fuel with
  | zero =>
    intro listed a w _ _ _ hr hy hS H
    refine ⟨fun h => (by rw [h] at hr; cases hr), fun j hj => ?_⟩
    by_cases hji : j = i
    · subst hji; exact hy.wpOp hi hS ⟨fun _ h => h, H⟩
    · have := ready_mono hj hji
      rw [H.1] at this
      cases this
  | succ fuel ih =>
    intro listed a w hfree hc hd hr hy hS H
    refine ⟨fun h => (by rw [h] at hr; cases hr), fun j hj => ?_⟩
    by_cases hji : j = i
    · subst hji; exact hy.wpOp hi hS ⟨fun _ h => h, H⟩
    · have h1 := H.2 j (ready_mono hj hji)
      obtain ⟨hjun, oj, hoj, hall⟩ := mem_ready.1 hj
      have hiun := (mem_ready.1 hr).1
      have hnot : ∀ e ∈ oj.after, Region.binds md e = true → e.on ≠ i := fun e he hb heq => by
        have h1 := hall e he hb
        rw [heq] at h1
        rcases Nat.lt_or_ge i listed.size with h' | h'
        · simp [h'] at hiun h1; rw [hiun] at h1; cases h1
        · simp [Array.getElem?_eq_none h'] at h1
      have hjd : j ∉ ds := fun hm => Region.reach_not_ready hc (hd j hm hjun) hiun hj
      have h2 := wpOp_putIf hoj (hfree j oj hoj hji hjun hnot) (fun cs b => hsel i oi cs b hi) (fun cs b => hsel j oj cs b hoj) hQ hy h1
      have hfree' : ∀ k ok, ops[k]? = some ok → k ≠ i → (listed.setIfInBounds j true).getD k true = false →
          (∀ e ∈ ok.after, Region.binds md e = true → e.on ≠ i) → oi.apart ops ok = true := fun k ok hk hki hun hno => by
        refine hfree k ok hk hki ?_ hno
        by_cases hjk : j = k
        · subst hjk; exact hjun
        · rw [getD_set_ne true hjk] at hun; exact hun
      have hd' : ∀ d ∈ ds, (listed.setIfInBounds j true).getD d true = false → Region.reachB md ops i n d = true := fun d hm hun => by
        refine hd d hm ?_
        by_cases hjk : j = d
        · subst hjk; exact hjun
        · rw [getD_set_ne true hjk] at hun; exact hun
      refine wpOp_mono (fun a' w' h3 => ⟨h3.2.1, ih (listed.setIfInBounds j true) a' w' hfree' (hc.set hj) hd' (ready_mono hr (Ne.symm hji)) h3.1 (h3.2.1 hjd hS) ?_⟩) h2
      rw [Array.setIfInBounds_comm _ _ hji]
      exact h3.2.2
theorem wpAnyLast_any {i : Nat} {oi : Oper} {v : Value} (hi : ops[i]? = some oi) (hsel : ∀ (j : Nat) (o : Oper) cs b, ops[j]? = some o → o.op ≠ .select cs b)
    (hQ : ∀ c a w, Q (.panic c) (a.put oi.dst v) w → Q (.panic c) a w) :
    ∀ (fuel : Nat) (listed : Array Bool) (a : Act) (w : World),
      (∀ j oj, ops[j]? = some oj → j ≠ i → listed.getD j true = false → (∀ e ∈ oj.after, Region.binds md e = true → e.on ≠ i) → oi.apart ops oj = true) →
      i ∈ Region.ready md ops listed → Yields P ops oi v a →
      wpAnyLast P md ops Q S ds fuel (listed.setIfInBounds i true) (a.put oi.dst v) w → wpAnyLast P md ops Q S ds (fuel + 1) listed a w := by
  intro fuel
  induction fuel with
  | zero =>
    intro listed a w _ hr hy H
    refine ⟨fun h => (by rw [h] at hr; cases hr), fun j hj => ?_⟩
    by_cases hji : j = i
    · subst hji; exact (hy.yieldsIf (S := fun _ => True)).wpOp hi trivial ⟨fun _ h => h, H⟩
    · have := ready_mono hj hji
      rw [H.1] at this
      cases this
  | succ fuel ih =>
    intro listed a w hfree hr hy H
    refine ⟨fun h => (by rw [h] at hr; cases hr), fun j hj => ?_⟩
    by_cases hji : j = i
    · subst hji; exact (hy.yieldsIf (S := fun _ => True)).wpOp hi trivial ⟨fun _ h => h, H⟩
    · have h1 := H.2 j (ready_mono hj hji)
      obtain ⟨hjun, oj, hoj, hall⟩ := mem_ready.1 hj
      have hiun := (mem_ready.1 hr).1
      have hnot : ∀ e ∈ oj.after, Region.binds md e = true → e.on ≠ i := fun e he hb heq => by
        have h1 := hall e he hb
        rw [heq] at h1
        rcases Nat.lt_or_ge i listed.size with h' | h'
        · simp [h'] at hiun h1; rw [hiun] at h1; cases h1
        · simp [Array.getElem?_eq_none h'] at h1
      have h2 := wpOp_put hoj (hfree j oj hoj hji hjun hnot) (fun cs b => hsel i oi cs b hi) (fun cs b => hsel j oj cs b hoj) hQ hy h1
      have hfree' : ∀ k ok, ops[k]? = some ok → k ≠ i → (listed.setIfInBounds j true).getD k true = false →
          (∀ e ∈ ok.after, Region.binds md e = true → e.on ≠ i) → oi.apart ops ok = true := fun k ok hk hki hun hno => by
        refine hfree k ok hk hki ?_ hno
        by_cases hjk : j = k
        · subst hjk; exact hjun
        · rw [getD_set_ne true hjk] at hun; exact hun
      refine wpOp_mono (fun a' w' h3 => ⟨h3.2.1, ih (listed.setIfInBounds j true) a' w' hfree' (ready_mono hr (Ne.symm hji)) h3.1 ?_⟩) h2
      rw [Array.setIfInBounds_comm _ _ hji]
      exact h3.2.2
theorem wpAnyLast_take {i : Nat} {oi : Oper} {v : Value} {fuel : Nat} {listed : Array Bool} {a : Act} {w : World} (hi : ops[i]? = some oi)
    (hs : Region.noSelect ops = true) (hf : Region.free md ops listed i = true) (hr : (Region.ready md ops listed).contains i = true)
    (hc : Region.closedB md ops listed = true) (hl : Region.lastB md ops listed ds i = true)
    (hQ : ∀ c a w, Q (.panic c) (a.put oi.dst v) w → Q (.panic c) a w) (hy : YieldsIf P ops S oi v a) (hS : S w)
    (h : wpAnyLast P md ops Q S ds fuel (listed.setIfInBounds i true) (a.put oi.dst v) w) : wpAnyLast P md ops Q S ds (fuel + 1) listed a w :=
  wpAnyLast_first hi (Region.noSelect_spec hs) hQ ops.size fuel listed a w (Region.free_spec hi hf) (Region.closedB_spec hc)
    (fun d hm hun => by have := List.all_eq_true.1 hl d hm; rw [hun] at this; simpa using this) (by simpa using hr) hy hS h
theorem wpAnyLast_all {rs : List Nat} {fuel : Nat} {listed : Array Bool} {a : Act} {w : World} (hr : Region.ready md ops listed = rs) (hne : rs ≠ [])
    (h : ∀ i ∈ rs, wpOp P ops Q i (fun a' w' => (i ∉ ds → S w → S w') ∧ wpAnyLast P md ops Q S ds fuel (listed.setIfInBounds i true) a' w') a w) : wpAnyLast P md ops Q S ds (fuel + 1) listed a w :=
  ⟨fun h0 => absurd (hr ▸ h0) hne, hr ▸ h⟩
theorem wpAnyLast_done {listed : Array Bool} {a : Act} {w : World} (hr : Region.ready md ops listed = []) (h : Q .normal a w) :
    ∀ fuel, wpAnyLast P md ops Q S ds fuel listed a w
  | 0 => ⟨hr, h⟩
  | _ + 1 => ⟨fun _ => h, by rw [hr]; simp⟩
theorem wp_region_last {id : Nat} {a : Act} {w : World} (hm : P.follows .mixedOrders = true)
    (h : wpAnyLast P .any ops Q S ds ops.size (Array.replicate ops.size false) a { w with drawn := w.drawn + 1 }) : (Code.region id ops true).wp P Q a w :=
  wp_region_any hm (wpAny_of_last _ _ _ _ h)
end
section
variable {P : Program} {ops : Array Oper} {Q : Exit → Act → World → Prop} {md : Region.Mode} {S : World → Prop} {ds : List Nat}
def AllReadyL (P : Program) (md : Region.Mode) (ops : Array Oper) (Q : Exit → Act → World → Prop) (S : World → Prop) (ds : List Nat) (fuel : Nat) (listed : Array Bool) (a : Act) (w : World) (rs : List Nat) : Prop :=
  ∀ i ∈ rs, wpOp P ops Q i (fun a' w' => (i ∉ ds → S w → S w') ∧ wpAnyLast P md ops Q S ds fuel (listed.setIfInBounds i true) a' w') a w
theorem AllReadyL.nil {fuel : Nat} {listed : Array Bool} {a : Act} {w : World} : AllReadyL P md ops Q S ds fuel listed a w [] := fun _ h => by cases h
theorem AllReadyL.cons {fuel : Nat} {listed : Array Bool} {a : Act} {w : World} {i : Nat} {o : Oper} {rs : List Nat} (ho : ops[i]? = some o) (hd : i ∉ ds)
    (h : ∀ K' : Act → World → Prop, Shut (∀ a w, S w → (S w → wpAnyLast P md ops Q S ds fuel (listed.setIfInBounds i true) a w) → K' a w) → if Region.wanted o (yielded ops a.tmps) = true then Oper.wp P o a w K' Q else K' (a.put o.dst undef) w)
    (hs : AllReadyL P md ops Q S ds fuel listed a w rs) : AllReadyL P md ops Q S ds fuel listed a w (i :: rs) := fun j hj => by
  rcases List.mem_cons.1 hj with rfl | hj
  · exact wpOp_step ho (fun K' hK => h K' (fun a w hS hW => hK a w ⟨fun _ _ => hS, hW hS⟩))
  · exact hs j hj
theorem wpAnyLast_ready {rs : List Nat} {fuel : Nat} {listed : Array Bool} {a : Act} {w : World} (hr : Region.ready md ops listed = rs) (hne : rs ≠ [])
    (h : AllReadyL P md ops Q S ds fuel listed a w rs) : wpAnyLast P md ops Q S ds (fuel + 1) listed a w := wpAnyLast_all hr hne h
theorem start_ {id n : Nat} {a : Act} {w : World} (l : Array Bool) (hm : P.follows .mixedOrders = true) (hn : ops.size = n) (hl : Array.replicate n false = l) (hS : S w.drew)
    (h : S w.drew → wpAnyLast P .any ops Q S ds n l a w.drew) : (Code.region id ops true).wp P Q a w := by
  subst hn
  subst hl
  exact wp_region_last hm (h hS)
def takeB (md : Region.Mode) (ops : Array Oper) (ds : List Nat) (l l' : Array Bool) (i : Nat) : Bool :=
  Region.noSelect ops && Region.free md ops l i && (Region.ready md ops l).contains i && Region.closedB md ops l && Region.lastB md ops l ds i && (l.setIfInBounds i true == l')
theorem take_ {i : Nat} {N : Option Tmp} {oi : Oper} {v : Value} {fuel : Nat} {l : Array Bool} {a : Act} {w : World} (l' : Array Bool) (hi : ops[i]? = some oi) (hN : oi.dst = N) (hc : takeB md ops ds l l' i = true)
    (hQ : ∀ c a w, Q (.panic c) (a.put oi.dst v) w → Q (.panic c) a w) (hy : YieldsIf P ops S oi v a) (hS : S w) {a' : Act} (ha : a.put N v = a')
    (h : wpAnyLast P md ops Q S ds fuel l' a' w) : wpAnyLast P md ops Q S ds (fuel + 1) l a w := by
  subst ha
  subst hN
  simp only [takeB, Bool.and_eq_true, beq_iff_eq] at hc
  obtain ⟨⟨⟨⟨⟨h1, h2⟩, h3⟩, h4⟩, h5⟩, h6⟩ := hc
  subst h6
  exact wpAnyLast_take hi h1 h2 h3 h4 h5 hQ hy hS h
def anyB (md : Region.Mode) (ops : Array Oper) (l l' : Array Bool) (i : Nat) : Bool :=
  Region.noSelect ops && Region.free md ops l i && (Region.ready md ops l).contains i && (l.setIfInBounds i true == l')
theorem pure_ {i : Nat} {N : Option Tmp} {oi : Oper} {v : Value} {fuel : Nat} {l : Array Bool} {a : Act} {w : World} (l' : Array Bool) (hi : ops[i]? = some oi) (hN : oi.dst = N) (hc : anyB md ops l l' i = true)
    (hQ : ∀ c a w, Q (.panic c) (a.put oi.dst v) w → Q (.panic c) a w) (hy : Yields P ops oi v a) {a' : Act} (ha : a.put N v = a')
    (h : wpAnyLast P md ops Q S ds fuel l' a' w) : wpAnyLast P md ops Q S ds (fuel + 1) l a w := by
  subst ha
  subst hN
  simp only [anyB, Bool.and_eq_true, beq_iff_eq] at hc
  obtain ⟨⟨⟨h1, h2⟩, h3⟩, h6⟩ := hc
  subst h6
  exact wpAnyLast_any hi (Region.noSelect_spec h1) hQ fuel l a w (Region.free_spec hi h2) (by simpa using h3) hy h
def readyB (md : Region.Mode) (ops : Array Oper) (l l' : Array Bool) (i : Nat) : Bool := (Region.ready md ops l == [i]) && (l.setIfInBounds i true == l')
theorem one_ {i : Nat} {N : Option Tmp} {oi : Oper} {fuel : Nat} {l : Array Bool} {a : Act} {w : World} (l' : Array Bool) (hi : ops[i]? = some oi) (hN : oi.dst = N) (hc : readyB md ops l l' i = true) (hd : i ∉ ds)
    (h : ∀ K : Act → World → Prop, Shut (∀ a' w', S w' → (S w' → wpAnyLast P md ops Q S ds fuel l' a' w') → K a' w') → if Region.wanted oi (yielded ops a.tmps) = true then Oper.wp P oi a w K Q else K (a.put N undef) w) :
    wpAnyLast P md ops Q S ds (fuel + 1) l a w := by
  subst hN
  simp only [readyB, Bool.and_eq_true, beq_iff_eq] at hc
  obtain ⟨h1, h2⟩ := hc
  subst h2
  exact wpAnyLast_ready h1 (by simp) (AllReadyL.cons hi hd (fun K hK => h K hK) AllReadyL.nil)
theorem done_ {l : Array Bool} {a : Act} {w : World} {n : Nat} (hr : (Region.ready md ops l == []) = true) (h : Q .normal a w) : wpAnyLast P md ops Q S ds n l a w := wpAnyLast_done (by simpa using hr) h n
theorem norm_ {fuel : Nat} {l : Array Bool} {a a' : Act} {w : World} (ha : a = a') (h : wpAnyLast P md ops Q S ds fuel l a' w) : wpAnyLast P md ops Q S ds fuel l a w := by
  subst ha
  exact h
theorem call_ {oi : Oper} {N : Option Tmp} {a : Act} {w : World} {K : Act → World → Prop} (f : FuncId) (args : Array Value) (hw : Region.wanted oi (yielded ops a.tmps) = true) (hN : oi.dst = N) (hrun : (execOp a.eval oi).run P w = .ok (.enter f args) w)
    (h : Calls P f args w fun e w' => ∃ v, e = .returned v ∧ K (a.put N v) w') : if Region.wanted oi (yielded ops a.tmps) = true then Oper.wp P oi a w K Q else K (a.put N undef) w := by
  rw [if_pos hw]
  subst hN
  unfold Oper.wp
  rw [hrun, Oper.upon_enter]
  refine h.mono fun e w'' hh => ?_
  obtain ⟨v, rfl, hk⟩ := hh
  exact hk
theorem enters_ {f : FuncId} {fn : Func} (hf : P.funcs[f]? = some fn) (hname : (fn.name == "runtime.NumGoroutine") = false) (hb : fn.body.isSome = true) (args : Array Value) (w : World) : (callFunc f args).run P w = .ok (.enter f args) w := by
  have h1 : fn.name ≠ "runtime.NumGoroutine" := by simpa using hname
  obtain ⟨c, hc⟩ := Option.isSome_iff_exists.1 hb
  simp [callFunc, hf, h1, hc]
theorem goes_ {oi : Oper} {N : Option Tmp} {a : Act} {w : World} {K : Act → World → Prop} {f : FuncId} {fn : Func} {as : Array Operand} {ts : Array TypeId} (hf : P.funcs[f]? = some fn) (hname : (fn.name == "runtime.NumGoroutine") = false) (hb : fn.body.isSome = true) (args : Array Value)
    (hw : Region.wanted oi (yielded ops a.tmps) = true) (hN : oi.dst = N) (hop : oi.op = .call { callee := .value (.func f), args := as, argTypes := ts }) (hargs : as.map a.eval = args)
    (h : Calls P f args w fun e w' => ∃ v, e = .returned v ∧ K (a.put N v) w') : if Region.wanted oi (yielded ops a.tmps) = true then Oper.wp P oi a w K Q else K (a.put N undef) w := by
  refine call_ f args hw hN ?_ h
  have he := enters_ hf hname hb args w
  unfold execOp
  simp [hop, resolve, Deferred.ofValue, invoke, Act.eval, hargs, he]
theorem goesL_ {rest : List Oper} {oi : Oper} {a : Act} {w : World} (N : Option Tmp) (hd : oi.dst = N) (hg : oi.guard = none) {f : FuncId} {fn : Func} {as : Array Operand} {ts : Array TypeId} (hf : P.funcs[f]? = some fn) (hname : (fn.name == "runtime.NumGoroutine") = false) (hb : fn.body.isSome = true) (args : Array Value)
    (hop : oi.op = .call { callee := .value (.func f), args := as, argTypes := ts }) (hargs : as.map a.eval = args)
    (h : Calls P f args w fun e w' => ∃ v, e = .returned v ∧ wpList P ops Q rest (a.put N v) w') : wpList P ops Q (oi :: rest) a w := by
  refine wpList_plain hg fun K hK => ?_
  have he := enters_ hf hname hb args w
  have hrun : (execOp a.eval oi).run P w = .ok (.enter f args) w := by
    unfold execOp
    simp [hop, resolve, Deferred.ofValue, invoke, Act.eval, hargs, he]
  unfold Oper.wp
  rw [hrun, Oper.upon_enter]
  refine h.mono fun e w'' hh => ?_
  obtain ⟨v, rfl, hk⟩ := hh
  subst hd
  exact hK _ _ hk
theorem i64_w (n : Int) : IntKind.i64.wrap n = Go.RowKit.wrap64 n := by unfold Go.RowKit.wrap64; exact IntKind.wrap_i64 n
end
end Go.Proofs.YtoimkmoalmmooaaW.PrintLast
namespace Go.Proofs.YtoimkmoalmmooaaW.PrintLast
open Go.Proofs.YtoimkmoalmmooaaW.PrintWords (Aside0)
def needsOf (md : Region.Mode) (o : Oper) : List Nat := (o.after.toList.filter (fun e => Region.binds md e)).map (fun e => e.on)
def clashOf (md : Region.Mode) (ops : Array Oper) (i : Nat) (oi : Oper) : List Nat := (List.range ops.size).filter fun j => !(j == i) && match ops[j]? with
  | some oj => !(oj.after.any (fun e => Region.binds md e && e.on == i) || oi.apart ops oj)
  | none => false
def rtab (md : Region.Mode) (ops : Array Oper) : Bool × List (List Nat × List Nat) := (Region.noSelect ops, (List.range ops.size).map fun i => match ops[i]? with
  | some o => (needsOf md o, clashOf md ops i o)
  | none => ([], []))
def readyAt (T : List (List Nat × List Nat)) (l : List Bool) (i : Nat) : Bool := !l.getD i true && match T[i]? with
  | some r => r.1.all (fun j => l.getD j false)
  | none => false
def readyT (T : List (List Nat × List Nat)) (l : List Bool) : List Nat := (List.range T.length).filter (readyAt T l)
def freeT (T : List (List Nat × List Nat)) (l : List Bool) (i : Nat) : Bool := match T[i]? with
  | some r => r.2.all (fun j => l.getD j true)
  | none => false
def closedT (T : List (List Nat × List Nat)) (l : List Bool) : Bool := (List.range T.length).all fun j => !l.getD j false || match T[j]? with
  | some r => r.1.all (fun k => l.getD k false)
  | none => true
def reachT (T : List (List Nat × List Nat)) (i : Nat) : Nat → Nat → Bool
  | 0, _ => false
  | fuel + 1, d => match T[d]? with
    | some r => r.1.any fun j => j == i || reachT T i fuel j
    | none => false
def lastT (T : List (List Nat × List Nat)) (l : List Bool) (ds : List Nat) (i : Nat) : Bool := ds.all fun d => l.getD d true || reachT T i T.length d
section
variable {md : Region.Mode} {ops : Array Oper} {T : Bool × List (List Nat × List Nat)} {l l' li lj lk : Array Bool} {ds : List Nat} {i j k : Nat}
theorem gd (l : Array Bool) (j : Nat) (b : Bool) : l.getD j b = l.toList.getD j b := by simp [Array.getD_eq_getD_getElem?, List.getD_eq_getElem?_getD]
theorem needs_all (o : Oper) (p : Nat → Bool) : o.after.all (fun e => !Region.binds md e || p e.on) = (needsOf md o).all p := by
  unfold needsOf
  rw [← Array.all_toList]
  induction o.after.toList with
  | nil => rfl
  | cons e r ih =>
    rw [List.all_cons, ih, List.filter_cons]
    cases h : Region.binds md e <;> simp
theorem needs_any (o : Oper) (p : Nat → Bool) : o.after.any (fun e => Region.binds md e && p e.on) = (needsOf md o).any p := by
  unfold needsOf
  rw [← Array.any_toList]
  induction o.after.toList with
  | nil => rfl
  | cons e r ih =>
    rw [List.any_cons, ih, List.filter_cons]
    cases h : Region.binds md e <;> simp
theorem rtab_length : (rtab md ops).2.length = ops.size := by simp [rtab]
theorem rtab_some {o : Oper} (h : ops[i]? = some o) : (rtab md ops).2[i]? = some (needsOf md o, clashOf md ops i o) := by
  have hi := (Array.getElem?_eq_some_iff.1 h).1
  unfold rtab
  rw [List.getElem?_map, List.getElem?_range hi, Option.map_some, h]
theorem rtab_none (h : ops[i]? = none) : (rtab md ops).2[i]? = none := by
  have hi : ops.size ≤ i := Array.getElem?_eq_none_iff.1 h
  exact List.getElem?_eq_none (by rw [rtab_length]; exact hi)
theorem readyAt_eq : readyAt (rtab md ops).2 l.toList i = (!l.getD i true && ((ops[i]?).map (·.after.all fun e => !Region.binds md e || l.getD e.on false)).getD false) := by
  unfold readyAt
  rw [gd]
  cases h : ops[i]? with
  | none => rw [rtab_none h]; rfl
  | some o =>
    rw [rtab_some h]
    simp only [Option.map_some, Option.getD_some]
    rw [← needs_all]
    simp only [gd]
theorem ready_eq : Region.ready md ops l = readyT (rtab md ops).2 l.toList := by
  unfold Region.ready readyT
  rw [rtab_length]
  refine List.filter_congr (fun i _ => ?_)
  rw [readyAt_eq]
theorem free_eq : Region.free md ops l i = freeT (rtab md ops).2 l.toList i := by
  unfold Region.free freeT
  cases h : ops[i]? with
  | none => rw [rtab_none h]
  | some oi =>
    rw [rtab_some h]
    simp only [clashOf]
    rw [List.all_filter]
    congr 1
    funext j
    rw [gd]
    cases hj : ops[j]? with
    | none => cases (j == i) <;> cases (l.toList.getD j true) <;> simp
    | some oj =>
      cases (j == i) <;> cases (l.toList.getD j true) <;> cases (oj.after.any (fun e => Region.binds md e && e.on == i) || oi.apart ops oj) <;> simp_all
theorem closed_eq : Region.closedB md ops l = closedT (rtab md ops).2 l.toList := by
  unfold Region.closedB closedT
  rw [rtab_length]
  congr 1
  funext j
  rw [gd]
  cases h : ops[j]? with
  | none => rw [rtab_none h]
  | some o =>
    rw [rtab_some h]
    simp only
    rw [← needs_all]
    simp only [gd]
theorem reach_eq : ∀ (fuel d : Nat), Region.reachB md ops i fuel d = reachT (rtab md ops).2 i fuel d
  | 0, _ => rfl
  | fuel + 1, d => by
    unfold Region.reachB reachT
    cases h : ops[d]? with
    | none => rw [rtab_none h]
    | some o =>
      rw [rtab_some h]
      simp only
      rw [← needs_any]
      congr 1
      funext e
      rw [reach_eq fuel]
theorem last_eq : Region.lastB md ops l ds i = lastT (rtab md ops).2 l.toList ds i := by
  unfold Region.lastB lastT
  rw [rtab_length]
  congr 1
  funext d
  rw [gd, reach_eq]
theorem readyAt_mem (h : readyAt T.2 l.toList i = true) (hT : rtab md ops = T) : (Region.ready md ops l).contains i = true := by
  subst hT
  rw [ready_eq]
  unfold readyT
  rw [List.contains_iff_mem, List.mem_filter, List.mem_range]
  refine ⟨?_, h⟩
  unfold readyAt at h
  rw [Bool.and_eq_true] at h
  cases hq : (rtab md ops).2[i]? with
  | none => rw [hq] at h; simp at h
  | some r => exact (List.getElem?_eq_some_iff.1 hq).1
theorem set_of (h : (l.toList.set i true == l'.toList) = true) : (l.setIfInBounds i true == l') = true := by
  rw [beq_iff_eq] at h ⊢
  apply Array.ext'
  rw [Array.toList_setIfInBounds]
  exact h
def anyT (T : Bool × List (List Nat × List Nat)) (l l' : List Bool) (i : Nat) : Bool := T.1 && freeT T.2 l i && readyAt T.2 l i && (l.set i true == l')
theorem any_of (hT : rtab md ops = T) (h : anyT T l.toList l'.toList i = true) : anyB md ops l l' i = true := by
  simp only [anyT, Bool.and_eq_true] at h
  obtain ⟨⟨⟨h1, h2⟩, h3⟩, h4⟩ := h
  have h5 := readyAt_mem h3 hT
  have h6 := set_of h4
  subst hT
  simp only [anyB, Bool.and_eq_true]
  exact ⟨⟨⟨h1, by rw [free_eq]; exact h2⟩, h5⟩, h6⟩
def takeT (T : Bool × List (List Nat × List Nat)) (ds : List Nat) (l l' : List Bool) (i : Nat) : Bool := T.1 && freeT T.2 l i && readyAt T.2 l i && closedT T.2 l && lastT T.2 l ds i && (l.set i true == l')
theorem take_of (hT : rtab md ops = T) (h : takeT T ds l.toList l'.toList i = true) : takeB md ops ds l l' i = true := by
  simp only [takeT, Bool.and_eq_true] at h
  obtain ⟨⟨⟨⟨⟨h1, h2⟩, h3⟩, h4⟩, h5⟩, h6⟩ := h
  have h7 := readyAt_mem h3 hT
  have h8 := set_of h6
  subst hT
  simp only [takeB, Bool.and_eq_true]
  exact ⟨⟨⟨⟨⟨h1, by rw [free_eq]; exact h2⟩, h7⟩, by rw [closed_eq]; exact h4⟩, by rw [last_eq]; exact h5⟩, h8⟩
theorem one_of (hT : rtab md ops = T) (h : (readyT T.2 l.toList == [i] && l.toList.set i true == l'.toList) = true) : readyB md ops l l' i = true := by
  simp only [Bool.and_eq_true] at h
  obtain ⟨h1, h2⟩ := h
  subst hT
  simp only [readyB, Bool.and_eq_true]
  exact ⟨by rw [ready_eq]; exact h1, set_of h2⟩
theorem done_of (hT : rtab md ops = T) (h : (readyT T.2 l.toList == []) = true) : (Region.ready md ops l == []) = true := by
  subst hT
  rw [ready_eq]
  exact h
def upM (B : List Nat) (d : Nat) : List Nat → Nat
  | [] => 0
  | n :: r => (2 ^ n ||| (if n < d then B.getD n 0 else 0)) ||| upM B d r
def waitsOk (T : List (List Nat × List Nat)) (B : List Nat) : Bool := (List.range T.length).all fun d => match T[d]? with
  | some r => (B.getD d 0 ||| upM B d r.1) == upM B d r.1
  | none => false
theorem upM_bit {B : List Nat} {d i : Nat} : ∀ {ns : List Nat}, (upM B d ns).testBit i = true → ∃ n ∈ ns, n = i ∨ (n < d ∧ (B.getD n 0).testBit i = true)
  | [], h => by simp [upM] at h
  | n :: r, h => by
    unfold upM at h
    rw [Nat.testBit_or, Nat.testBit_or, Bool.or_eq_true, Bool.or_eq_true] at h
    rcases h with (h | h) | h
    · rw [Nat.testBit_two_pow] at h
      exact ⟨n, List.mem_cons_self, .inl (by simpa using h)⟩
    · by_cases hn : n < d
      · rw [if_pos hn] at h
        exact ⟨n, List.mem_cons_self, .inr ⟨hn, h⟩⟩
      · rw [if_neg hn] at h
        simp at h
    · obtain ⟨m, hm, h2⟩ := upM_bit h
      exact ⟨m, List.mem_cons_of_mem _ hm, h2⟩
theorem reach_bit {T : List (List Nat × List Nat)} {B : List Nat} (hB : waitsOk T B = true) : ∀ (fuel d : Nat), d < fuel → d < T.length → (B.getD d 0).testBit i = true → reachT T i fuel d = true
  | 0, d, h, _, _ => by omega
  | fuel + 1, d, h, hd, hb => by
    have h1 := List.all_eq_true.1 hB d (List.mem_range.2 hd)
    cases hr : T[d]? with
    | none => rw [hr] at h1; simp at h1
    | some r =>
      rw [hr] at h1
      simp only [beq_iff_eq] at h1
      have h2 : (upM B d r.1).testBit i = true := by rw [← h1, Nat.testBit_or, hb, Bool.true_or]
      obtain ⟨n, hn, h3⟩ := upM_bit h2
      unfold reachT
      rw [hr]
      simp only
      rw [List.any_eq_true]
      refine ⟨n, hn, ?_⟩
      rcases h3 with rfl | ⟨h4, h5⟩
      · simp
      · rw [reach_bit hB fuel n (by omega) (by omega) h5, Bool.or_true]
def lastW (T : List (List Nat × List Nat)) (B : List Nat) (l : List Bool) (ds : List Nat) (i : Nat) : Bool := ds.all fun d => l.getD d true || (decide (d < T.length) && (B.getD d 0).testBit i)
def takeW (T : Bool × List (List Nat × List Nat)) (B : List Nat) (ds : List Nat) (l l' : List Bool) (i : Nat) : Bool := T.1 && freeT T.2 l i && readyAt T.2 l i && closedT T.2 l && lastW T.2 B l ds i && (l.set i true == l')
theorem take_ofW {B : List Nat} (hT : rtab md ops = T) (hB : waitsOk T.2 B = true) (h : takeW T B ds l.toList l'.toList i = true) : takeB md ops ds l l' i = true := by
  refine take_of hT ?_
  simp only [takeW, takeT, Bool.and_eq_true] at h ⊢
  obtain ⟨⟨⟨⟨⟨h1, h2⟩, h3⟩, h4⟩, h5⟩, h6⟩ := h
  refine ⟨⟨⟨⟨⟨h1, h2⟩, h3⟩, h4⟩, ?_⟩, h6⟩
  unfold lastW at h5
  unfold lastT
  rw [List.all_eq_true] at h5 ⊢
  intro d hd
  have h7 := h5 d hd
  rw [Bool.or_eq_true, Bool.and_eq_true, decide_eq_true_eq] at h7
  rcases h7 with h7 | ⟨h8, h9⟩
  · rw [h7, Bool.true_or]
  · rw [reach_bit hB _ d h8 h8 h9, Bool.or_true]
theorem with_tabW {P : Program} {Q : Exit → Act → World → Prop} {S : World → Prop} {n : Nat} {a : Act} {w : World} {B : List Nat} (hT : rtab md ops = T) (hB : waitsOk T.2 B = true) (h : Aside0 (rtab md ops = T) → Aside0 (waitsOk T.2 B = true) → wpAnyLast P md ops Q S ds n l a w) : wpAnyLast P md ops Q S ds n l a w := h ⟨hT⟩ ⟨hB⟩
end
def opsIn : Code → Nat → Option (Array Oper)
  | .region id ops _, k => if id == k then some ops else none
  | .seq a b, k => match opsIn a k with
    | some o => some o
    | none => opsIn b k
  | .cond _ a b, k => match opsIn a k with
    | some o => some o
    | none => opsIn b k
  | .block _ c, k => opsIn c k
  | .loop c, k => opsIn c k
  | .scope c, k => opsIn c k
  | .rangeFunc _ _ a b, k => match opsIn a k with
    | some o => some o
    | none => opsIn b k
  | _, _ => none
def opsOf (f : Func) (k : Nat) : Array Oper := ((f.body.bind fun c => opsIn c k)).getD #[]
end Go.Proofs.YtoimkmoalmmooaaW.PrintLast
namespace Go.Proofs.YtoimkmoalmmooaaW.PrintWords
open Go.RowKit
namespace Kd
def tag {α : Type} (f : Nat → Nat) (d : Kd α) : Kd (α × Nat) where
  sz := d.sz
  E := d.E
  K := fun w x cs => d.K w x.1 cs
  M := fun w base ok x cs => d.M w base (fun k => ok k ∧ f k = x.2) x.1 cs
  K_len := fun h => d.K_len h
  K_one := fun h => d.K_one h
  K_below := fun hb h => d.K_below hb h
  K_of_M := fun h => d.K_of_M h
  M_mono := fun hok h => d.M_mono (fun k hk => ⟨hok k hk.1, hk.2⟩) h
  M_bound := fun h => d.M_mono (fun _ hk => ⟨⟨hk.1.1, hk.2⟩, hk.1.2⟩) (d.M_bound h)
  M_move := fun hm h => d.M_move (fun k hk => hm k hk.1) h
  M_lower := fun hb h => d.M_lower hb h
def S {α : Type} (d : Kd α) (e : Nat) (w : World) (base : Nat) (ok : Nat → Prop) (v : Value) (xs : List α) : Prop := ∃ f, (tag f d).R e w base ok v xs.zipIdx
section
variable {α β : Type} {d : Kd α} {d' : Kd β} {e e' : Nat} {w w1 W : World} {base b : Nat} {ok ok' okv oku : Nat → Prop} {u v : Value} {xs : List α} {ys : List β}
theorem zip_at {xs : List α} {j : Nat} {p : α} (h : xs[j]? = some p) : xs.zipIdx[j]? = some (p, j) := by rw [List.getElem?_zipIdx, h, Nat.zero_add]; rfl
theorem S_R (h : S d e w base ok v xs) : d.R e w base ok v xs := by
  obtain ⟨f, h0, inner, ho, hr⟩ := h
  rw [List.length_zipIdx] at ho
  exact ⟨h0, inner, ho, by have := hr.1; rw [List.length_zipIdx] at this; exact this, fun j p hj => d.M_mono (fun _ hk => hk.1) (hr.2 j (p, j) (zip_at hj))⟩
theorem R_head {ad : Addr} {n cap : Nat} (h : d.R e w base ok (.slice (some ad) n cap) xs) : ∃ g, ad = ⟨g, 0, none⟩ := by
  obtain ⟨_, inner, ho, hr⟩ := h
  rcases ho.2 with ⟨hv, _⟩ | ⟨g, cap', cur, hv, _⟩
  · cases hv
  · injection hv with ha _ _
    injection ha with ha
    exact ⟨g, ha⟩
theorem R_getA {ad : Addr} {n cap : Nat} (h : d.R e W base ok (.slice (some ad) n cap) xs) (z : α) (i : Int) (h0 : 0 ≤ i) (h1 : i < n) :
    ∃ c, c.length = d.sz ∧ d.M W base (fun k => ok k ∧ some k ≠ (Value.slice (some ad) n cap).ownBlock) (xs.getD i.toNat z) c ∧ ∀ j u, c[j]? = some u → W.cell? (ad.add (i.toNat * d.sz + j)) = some u := by
  obtain ⟨g, rfl⟩ := R_head h
  obtain ⟨c, hcl, hM, hcc, _⟩ := R_elem h z i h0 h1
  refine ⟨c, hcl, d.M_mono (fun k hk => ⟨hk.1, fun he => hk.2 (by simpa [Value.ownBlock] using he)⟩) hM, fun j u hu => ?_⟩
  rw [add_at, Nat.zero_add]
  exact hcc j u hu
theorem S_nil (d : Kd α) (e : Nat) (w : World) (base : Nat) (ok : Nat → Prop) : S d e w base ok (.slice none 0 0) [] := ⟨fun _ => 0, R_nil _ _ _ _ _⟩
theorem S_mono (h : S d e w base ok v xs) (hok : ∀ k, ok k → ok' k) : S d e w base ok' v xs := by
  obtain ⟨f, h⟩ := h
  exact ⟨f, R_mono h hok⟩
theorem S_bound (h : S d e w base ok v xs) : S d e w base (fun k => ok k ∧ base ≤ k ∧ k < w.heap.size ∧ ∃ q, q ∈ e :: d.E ∧ ∃ cells, w.heap[k]? = some (.cells cells q (0, 0))) v xs := by
  obtain ⟨f, h⟩ := h
  exact ⟨f, R_bound h⟩
theorem S_move (h : S d e w base ok v xs) (hm : ∀ k, ok k → w1.heap[k]? = w.heap[k]?) : S d e w1 base ok v xs := by
  obtain ⟨f, h⟩ := h
  exact ⟨f, R_move h hm⟩
theorem S_lower {base' : Nat} (h : S d e w base ok v xs) (hb : base' ≤ base) : S d e w base' ok v xs := by
  obtain ⟨f, h⟩ := h
  exact ⟨f, R_lower h hb⟩
theorem S_step (h : S d e w base ok v xs) (hm : ∀ k, ok k → k < w.heap.size → w1.heap[k]? = w.heap[k]?) : S d e w1 base ok v xs :=
  S_mono (S_move (S_bound h) (fun k hk => hm k hk.1 hk.2.2.1)) (fun _ hk => hk.1)
theorem S_below (h : S d e w base ok v xs) (hb : Below w.heap.size w w1) : S d e w1 base ok v xs := S_step h (fun k _ hk => hb.block k hk)
theorem S_drew (h : S d e w base ok v xs) : S d e w.drew base ok v xs := S_below h (below_drew (Below.refl _ _))
theorem S_drewN (h : S d e w base ok v xs) (m : Nat) : S d e (w.drewN m) base ok v xs := S_below h (pw_below_drewN (Below.refl _ _) m)
theorem S_far (h : S d e w base ok v xs) {p : Addr} (hok : ∀ k, ok k → k ≠ p.block) (u : Value) : S d e (w.setCell p u) base ok v xs := S_step h (fun k ho _ => Below.heap_setCell w p u k (hok k ho))
theorem S_new' (h : S d e w1 W.heap.size ok v xs) (hlt : ∀ k, u.ownBlock = some k → k < W.heap.size) : S d e w1 W.heap.size (fun k => ok k ∧ some k ≠ u.ownBlock) v xs := by
  obtain ⟨f, h⟩ := h
  exact ⟨f, R_new' h hlt⟩
theorem S_after {v1 : Value} (h : S d e W base (fun k => ok k ∧ some k ≠ v.ownBlock) u xs) (hg : W.grownBy w1 v.ownBlock) (hat : v1.ownBlock = v.ownBlock ∨ ∃ b, v1.ownBlock = some b ∧ W.heap.size ≤ b) : S d e w1 base (fun k => ok k ∧ some k ≠ v1.ownBlock) u xs := by
  obtain ⟨f, h⟩ := h
  exact ⟨f, R_after h hg hat⟩
theorem R_tag {f f' : Nat → Nat} {zs : List (α × Nat)} (h : (tag f d).R e w base ok v zs) (hf : ∀ k, ok k → k < w.heap.size → f' k = f k) : (tag f' d).R e w base ok v zs := by
  obtain ⟨h0, inner, ho, hr⟩ := R_bound h
  exact ⟨fun k hk => (h0 k hk).1, inner, ho, hr.1, fun j p hj => d.M_mono (fun k hk => ⟨⟨hk.1.1.1, hk.1.2⟩, (hf k hk.1.1.1 hk.1.1.2.2.1).trans hk.2⟩) (hr.2 j p hj)⟩
end
section
variable {α β : Type} {d : Kd α} {d' : Kd β} {e e' g : Nat} {w w1 W : World} {base b : Nat} {ok ok' okv oku : Nat → Prop} {u v : Value} {xs : List α} {ys : List β}
theorem S_slice (h : S d e w base ok v xs) : ∃ A c, v = .slice A xs.length c := R_slice (S_R h)
theorem S_reads' {A : Option Addr} {n c : Nat} (h : S d e w base ok (.slice A n c) xs) : n = xs.length ∧ n ≤ c ∧ d.C w A xs.length xs := R_reads' (S_R h)
theorem S_get {ad : Addr} {n cap : Nat} (h : S d e W base ok (.slice (some ad) n cap) xs) (z : α) (i : Int) (h0 : 0 ≤ i) (h1 : i < n) :
    ∃ c, c.length = d.sz ∧ d.M W base (fun k => ok k ∧ some k ≠ (Value.slice (some ad) n cap).ownBlock) (xs.getD i.toNat z) c ∧ ∀ j u, c[j]? = some u → W.cell? (ad.add (i.toNat * d.sz + j)) = some u := R_getA (S_R h) z i h0 h1
theorem S_elderB (h : S d e w base ok v xs) (a : Nat) (ha : w.heap.size ≤ a) : S d e w base (fun k => ok k ∧ k ≠ a) v xs := S_mono (S_bound h) (fun k hk => ⟨hk.1, by have := hk.2.2.1; omega⟩)
theorem zip_snoc (xs : List α) (p : α) : (xs ++ [p]).zipIdx = xs.zipIdx ++ [(p, xs.length)] := by rw [List.zipIdx_append]; simp
end
section
open Classical in
theorem S_tag {α : Type} {d : Kd α} {e base : Nat} {okv : Nat → Prop} {w : World} {v : Value} {xs : List α} (h : S d e w base okv v xs) (m : Nat) (okp : Nat → Prop) (hap : ∀ k, okp k → ¬ okv k) : ∃ f, (∀ k, okp k → f k = m) ∧ (tag f d).R e w base okv v xs.zipIdx := by
  obtain ⟨f, h⟩ := h
  exact ⟨fun k => if okp k then m else f k, fun k hk => if_pos hk, R_tag h (fun k hk _ => if_neg (fun h2 => hap k h2 hk))⟩
variable {P : Program} {ops : Array Oper} {rest : List Oper} {o : Oper} {a : Act} {Q : Exit → Act → World → Prop} {Kc : Act → World → Prop} {α : Type}
theorem S_append (d : Kd α) {w0 W : World} (base : Nat) (hgd : o.guard = none) (s x : Operand) (t e : TypeId) (z : Value) (bytes : Nat)
    (ho : o.op = .call { callee := .builtin .append, args := #[s, x], argTypes := #[t, t] })
    (ht : P.underlying t = some (.slice e)) (hinfo : (P.info? e).map (fun i => (i.zero, i.size, i.bytes)) = some (some z, d.sz, bytes)) (hz : z.cells.size = d.sz) (hs0 : 0 < d.sz) (hb0 : 0 < bytes)
    (v : Value) (xs : List α) (p : α) (cs : List Value) (ok okp : Nat → Prop) (hs : a.eval s = v) (hx : a.eval x = .slice (some ⟨W.heap.size, 0, none⟩) 1 1) (hp : d.M W base okp p cs) (hokp : ∀ k, okp k → ok k ∧ some k ≠ v.ownBlock) (hfresh : ∀ k, W.heap.size ≤ k → ok k)
    (HO : S d e W base (fun k => ok k ∧ ¬ okp k) v xs) (HB : Below base w0 W) (hbase : base ≤ W.heap.size) (hl : (xs.length + 1) * bytes ≤ 140737488355328)
    (h : ∀ v1 w1, S d e w1 base ok v1 (xs ++ [p]) → Below base w0 w1 → W.grownBy w1 v.ownBlock → (v1.ownBlock = v.ownBlock ∨ ∃ b, v1.ownBlock = some b ∧ W.heap.size ≤ b) → wpList P ops Q rest (a.put o.dst v1) w1) :
    wpList P ops Q (o :: rest) a (W.alloc (.cells cs.toArray e)) := by
  obtain ⟨f, hf, hR⟩ := S_tag HO xs.length okp (fun _ hk h2 => h2.2 hk)
  refine R_append (tag f d) base hgd s x t e z bytes ho ht hinfo hz hs0 hb0 v xs.zipIdx (p, xs.length) cs ok okp hs hx (d.M_mono (fun k hk => ⟨hk, hf k hk⟩) hp) hokp hfresh (R_mono hR (fun _ hk => hk.1)) HB hbase (by rw [List.length_zipIdx]; exact hl) ?_
  intro v1 w1 hr
  rw [← zip_snoc] at hr
  exact h v1 w1 ⟨f, hr⟩
end
section
variable {α β : Type} {d : Kd α} {e e' g n cap : Nat} {w w1 W : World} {base : Nat} {ok ok' oki okp : Nat → Prop} {u v : Value} {xs : List α} {i : Int} {c : List Value}
open Classical in
end
section
variable {P : Program} {ops : Array Oper} {rest : List Oper} {o : Oper} {a : Act} {Q : Exit → Act → World → Prop} {α : Type}
end
end Kd
end Go.Proofs.YtoimkmoalmmooaaW.PrintWords
namespace Go.Proofs.YtoimkmoalmmooaaW.PrintWords
open Go.RowKit
section
variable {P : Program} {d : Nat} {xs ys : Array Value} {f : Field} {fs : List Field} {a b : Value} {r s : Bool} {w : World}
theorem eqf_last (hn : (f.name == "_") = false) (ha : (part f.type xs f.offset).run P w = .ok a w) (hb : (part f.type ys f.offset).run P w = .ok b w) (he : (Op.equalIn d f.type a b).run P w = .ok r w) : (Op.eqFields d xs ys [f]).run P w = .ok r w := by
  have hn' : f.name ≠ "_" := by simpa using hn
  simp only [Op.eqFields, if_pos hn', Sem.run_bind, ha, hb, he, Result.andThen_ok]
  cases r <;> simp
theorem eqf_cons (hn : (f.name == "_") = false) (ha : (part f.type xs f.offset).run P w = .ok a w) (hb : (part f.type ys f.offset).run P w = .ok b w) (he : (Op.equalIn d f.type a b).run P w = .ok r w) (hr : (Op.eqFields d xs ys fs).run P w = .ok s w) : (Op.eqFields d xs ys (f :: fs)).run P w = .ok (r && s) w := by
  have hn' : f.name ≠ "_" := by simpa using hn
  rw [Op.eqFields]
  simp only [if_pos hn', Sem.run_bind, ha, hb, he, Result.andThen_ok]
  cases r
  · simp
  · simpa using hr
theorem eqA_of {t : TypeId} {fs : Array Field} (hu : P.underlying t = some (.struct fs)) (hp : P.stoodInHeld t = false) (h : (Op.eqFields d xs ys fs.toList).run P w = .ok r w) : (Op.equalIn (d + 1) t (.agg xs) (.agg ys)).run P w = .ok r w := by
  have hf : P.fieldsOf t = fs := by simp [Program.fieldsOf, hu]
  rw [run_equalIn_struct (P := P) w d t xs ys (by rw [hf]; exact hu) hp, hf]
  exact h
end
end Go.Proofs.YtoimkmoalmmooaaW.PrintWords
namespace Go.Proofs.YtoimkmoalmmooaaW.PrintWords
theorem Reps.front {α : Type} {R : α → List Value → Prop} {size : Nat} {ps : List α} {cs c all : List Value} {p : α} (hp : R p c) (hc : c.length = size) (h : Reps R size ps cs) (ha : c ++ cs = all) : Reps R size (p :: ps) all := by
  subst ha
  refine ⟨by rw [List.length_append, hc, h.1, List.length_cons, Nat.succ_mul, Nat.add_comm], fun j q hq => ?_⟩
  cases j with
  | zero =>
    simp only [List.getElem?_cons_zero, Option.some.injEq] at hq
    subst hq
    rw [Nat.zero_mul, List.drop_zero, List.take_append_of_le_length (by omega), List.take_of_length_le (by omega)]
    exact hp
  | succ j =>
    simp only [List.getElem?_cons_succ] at hq
    have h1 := h.2 j q hq
    rw [Nat.succ_mul, List.drop_append, List.drop_of_length_le (by rw [hc]; exact Nat.le_add_left _ _), List.nil_append, hc, Nat.add_sub_cancel]
    exact h1
theorem Reps.c5 {α : Type} {R : α → List Value → Prop} {ps : List α} {cs : List Value} {p : α} {va vb vc vd ve : Value} (hp : R p [va, vb, vc, vd, ve]) (h : Reps R 5 ps cs) : Reps R 5 (p :: ps) (va :: vb :: vc :: vd :: ve :: cs) := Reps.front hp rfl h rfl
end Go.Proofs.YtoimkmoalmmooaaW.PrintWords
namespace Go.Proofs.YtoimkmoalmmooaaW.PrintWords
open Go.RowKit
section
variable {P : Program} {ops : Array Oper} {rest : List Oper} {o : Oper} {a : Act} {Q : Exit → Act → World → Prop} {W : World}
theorem gate_guard (hw : Region.wanted o (yielded ops a.tmps) = true) (h : wpList P ops Q ({ o with guard := none } :: rest) a W) : wpList P ops Q (o :: rest) a W := by
  have h1 : Region.wanted { o with guard := none } (yielded ops a.tmps) = true := rfl
  unfold wpList at h ⊢
  rw [if_pos h1] at h
  rw [if_pos hw]
  exact h
end
end Go.Proofs.YtoimkmoalmmooaaW.PrintWords
namespace Go.Proofs.YtoimkmoalmmooaaW.PrintMore
open Go.RowKit Go.Proofs.YtoimkmoalmmooaaW.PrintWords
namespace Kd
open Go.Proofs.YtoimkmoalmmooaaW.PrintWords.Kd
end Kd
namespace Kd
open Go.Proofs.YtoimkmoalmmooaaW.PrintWords.Kd
section
variable {α : Type} {d : Kd α} {e base g N : Nat} {ok : Nat → Prop} {W w1 : World} {u v : Value} {xs : List α}
end
end Kd
end Go.Proofs.YtoimkmoalmmooaaW.PrintMore
namespace Go.Proofs.YtoimkmoalmmooaaW.PrintWords
open Go.RowKit
section
variable {P : Program} {ops : Array Oper} {rest : List Oper} {o : Oper} {a : Act} {Q : Exit → Act → World → Prop} {W : World}
theorem gate_callee {f : FuncId} {as : Array Operand} {ts : Array TypeId} (_ho : o.op = .call { callee := .value (.func f), args := as, argTypes := ts }) (h : wpList P ops Q (o :: rest) a W) : wpList P ops Q (o :: rest) a W := h
theorem gate_builtin {b : Builtin} {xs : Array Operand} {ts : Array TypeId} (_ho : o.op = .call { callee := .builtin b, args := xs, argTypes := ts }) (h : wpList P ops Q (o :: rest) a W) : wpList P ops Q (o :: rest) a W := h
end
namespace Kd
section
variable {α : Type} {d : Kd α} {e base : Nat} {ok : Nat → Prop} {W w1 : World} {v : Value} {xs : List α}
end
section
variable {α : Type} {d : Kd α} {e base g n cap : Nat} {ok oki okp : Nat → Prop} {W : World} {xs : List α} {i : Int} {c : List Value}
end
section
variable {α : Type} {d : Kd α} {e base b b' g N : Nat} {ok ok1 : Nat → Prop} {W W2 w1 : World} {u v : Value} {xs ys : List α} {S : Nat → Prop}
end
end Kd
end Go.Proofs.YtoimkmoalmmooaaW.PrintWords
namespace Go.Proofs.YtoimkmoalmmooaaW.PrintWords
open Go.RowKit
namespace Kd
section
variable {α β : Type} {d : Kd α} {e base base' n m c g N' lo hi : Nat} {ok ok' S : Nat → Prop} {w W w1 : World} {A : Option Addr} {ad : Addr} {u v v1 : Value} {xs : List α}
end
end Kd
end Go.Proofs.YtoimkmoalmmooaaW.PrintWords
namespace Go.Proofs.Ytoimkmoalmmooaa.QA
open Go.Proofs.Ytoimkmoalmmooaa.Given
open Go.Proofs.Ytoimkmoalmmooaa.PrX
open Go.RowKit Go.Proofs.YtoimkmoalmmooaaW.PrintWords Go.Proofs.YtoimkmoalmmooaaW.PrintLast Go.Proofs.YtoimkmoalmmooaaW.PrintMore
set_option linter.unusedVariables false
set_option linter.unusedSimpArgs false
theorem info5 : (Try.prog.info? 5).map (fun i => (i.zero, i.size, i.bytes)) = some (some (.int .u8 0), 1, 1) := by kernel_rfl
theorem info9 : (Try.prog.info? 9).map (fun i => (i.zero, i.size, i.bytes)) = some (some (.string ⟨#[]⟩), 1, 16) := by kernel_rfl
theorem info34 : (Try.prog.info? 34).map (fun i => (i.zero, i.size, i.bytes)) = some (some (.agg #[(.string ⟨#[]⟩), (.string ⟨#[]⟩)]), 2, 32) := by kernel_rfl
structure S96 where
  f0 : ByteArray
  f1 : ByteArray
def z96 : S96 := ⟨(⟨#[]⟩ : ByteArray), (⟨#[]⟩ : ByteArray)⟩
def k96 : Kd S96 := Kd.iso (Kd.pair Kd.string Kd.string) (fun x : S96 => (x.f0, x.f1))
theorem k96_open {w : World} {x : S96} {cs : List Value} (h : k96.K w x cs) : cs = [.string x.f0, .string x.f1] := by
  obtain ⟨_, _, rfl, rfl, rfl⟩ := h
  exact rfl
theorem k96_mkM (w : World) (base : Nat) (ok : Nat → Prop) (x : S96)  : k96.M w base ok x [.string x.f0, .string x.f1] := ⟨[.string x.f0], [.string x.f1], rfl, rfl, rfl⟩
def rd_T96 (xs : List S96) (i : Int) : S96 := xs.getD i.toNat z96
theorem at_T96 {w : World} {A : Option Addr} {n : Nat} {xs : List S96} (h : Kd.C k96 w A n xs) (i : Int) (h0 : 0 ≤ i) (h1 : i < n) : ∃ ad , A = some ad ∧ w.cell? (ad.add (i.toNat * 2)) = some (.string (rd_T96 xs i).f0) ∧ w.cell? ⟨(ad.add (i.toNat * 2)).block, (ad.add (i.toNat * 2)).off + 1, none⟩ = some (.string (rd_T96 xs i).f1) := by
  obtain ⟨ad, c, e, _, hK, hc0⟩ := Kd.C_get h z96 i h0 h1
  have hc : ∀ j u, c[j]? = some u → w.cell? (ad.add (i.toNat * 2 + j)) = some u := hc0
  obtain rfl := k96_open hK
  exact ⟨ad, e, hc 0 _ rfl, by rw [← add_field _ _ 1 (by omega)]; exact hc 1 _ rfl⟩
structure S34 where
  f0 : ByteArray
  f1 : ByteArray
def z34 : S34 := ⟨(⟨#[]⟩ : ByteArray), (⟨#[]⟩ : ByteArray)⟩
def k34 : Kd S34 := Kd.iso (Kd.pair Kd.string Kd.string) (fun x : S34 => (x.f0, x.f1))
theorem k34_open {w : World} {x : S34} {cs : List Value} (h : k34.K w x cs) : cs = [.string x.f0, .string x.f1] := by
  obtain ⟨_, _, rfl, rfl, rfl⟩ := h
  exact rfl
theorem k34_mkM (w : World) (base : Nat) (ok : Nat → Prop) (x : S34)  : k34.M w base ok x [.string x.f0, .string x.f1] := ⟨[.string x.f0], [.string x.f1], rfl, rfl, rfl⟩
def rd_T34 (xs : List S34) (i : Int) : S34 := xs.getD i.toNat z34
theorem at_T34 {w : World} {A : Option Addr} {n : Nat} {xs : List S34} (h : Kd.C k34 w A n xs) (i : Int) (h0 : 0 ≤ i) (h1 : i < n) : ∃ ad , A = some ad ∧ w.cell? (ad.add (i.toNat * 2)) = some (.string (rd_T34 xs i).f0) ∧ w.cell? ⟨(ad.add (i.toNat * 2)).block, (ad.add (i.toNat * 2)).off + 1, none⟩ = some (.string (rd_T34 xs i).f1) := by
  obtain ⟨ad, c, e, _, hK, hc0⟩ := Kd.C_get h z34 i h0 h1
  have hc : ∀ j u, c[j]? = some u → w.cell? (ad.add (i.toNat * 2 + j)) = some u := hc0
  obtain rfl := k34_open hK
  exact ⟨ad, e, hc 0 _ rfl, by rw [← add_field _ _ 1 (by omega)]; exact hc 1 _ rfl⟩
structure S32 where
  f0 : ByteArray
  f1 : Bool
  f2 : Int
  f3 : (List ByteArray)
  f4 : (List S34)
def z32 : S32 := ⟨(⟨#[]⟩ : ByteArray), false, (0 : Int), ([] : List ByteArray), ([] : List S34)⟩
def k32 : Kd S32 := Kd.iso (Kd.pair Kd.string (Kd.pair Kd.bool (Kd.pair (Kd.int .i64) (Kd.pair (Kd.slice 9 Kd.string) (Kd.slice 34 k34))))) (fun x : S32 => (x.f0, x.f1, x.f2, x.f3, x.f4))
theorem k32_open {w : World} {x : S32} {cs : List Value} (h : k32.K w x cs) : ∃ A3 c3 A4 c4, cs = [.string x.f0, .bool x.f1, .int .i64 x.f2, .slice A3 x.f3.length c3, .slice A4 x.f4.length c4] ∧ x.f3.length ≤ c3 ∧ Kd.string.C w A3 x.f3.length x.f3 ∧ x.f4.length ≤ c4 ∧ k34.C w A4 x.f4.length x.f4 := by
  obtain ⟨_, _, rfl, rfl, ⟨_, _, rfl, rfl, ⟨_, _, rfl, rfl, ⟨_, _, rfl, ⟨A3, c3, rfl, l3, g3⟩, ⟨A4, c4, rfl, l4, g4⟩⟩⟩⟩⟩ := h
  exact ⟨A3, c3, A4, c4, rfl, l3, g3, l4, g4⟩
theorem k32_openM {w : World} {base : Nat} {ok : Nat → Prop} {x : S32} {cs : List Value} (h : k32.M w base ok x cs) : ∃ v3 v4, cs = [.string x.f0, .bool x.f1, .int .i64 x.f2, v3, v4] ∧ Kd.string.R 9 w base ok v3 x.f3 ∧ k34.R 34 w base ok v4 x.f4 := by
  obtain ⟨_, _, rfl, rfl, ⟨_, _, rfl, rfl, ⟨_, _, rfl, rfl, ⟨_, _, rfl, ⟨v3, rfl, g3⟩, ⟨v4, rfl, g4⟩⟩⟩⟩⟩ := h
  exact ⟨v3, v4, rfl, g3, g4⟩
theorem k32_mkM (w : World) (base : Nat) (ok : Nat → Prop) (x : S32) {v3 : Value} (g3 : Kd.string.R 9 w base ok v3 x.f3) {v4 : Value} (g4 : k34.R 34 w base ok v4 x.f4) : k32.M w base ok x [.string x.f0, .bool x.f1, .int .i64 x.f2, v3, v4] := ⟨[.string x.f0], [.bool x.f1, .int .i64 x.f2, v3, v4], rfl, rfl, ⟨[.bool x.f1], [.int .i64 x.f2, v3, v4], rfl, rfl, ⟨[.int .i64 x.f2], [v3, v4], rfl, rfl, ⟨[v3], [v4], rfl, ⟨v3, rfl, g3⟩, ⟨v4, rfl, g4⟩⟩⟩⟩⟩
def rd_T32 (xs : List S32) (i : Int) : S32 := xs.getD i.toNat z32
theorem at_T32 {w : World} {A : Option Addr} {n : Nat} {xs : List S32} (h : Kd.C k32 w A n xs) (i : Int) (h0 : 0 ≤ i) (h1 : i < n) : ∃ ad A3 c3 A4 c4, A = some ad ∧ w.cell? (ad.add (i.toNat * 5)) = some (.string (rd_T32 xs i).f0) ∧ w.cell? ⟨(ad.add (i.toNat * 5)).block, (ad.add (i.toNat * 5)).off + 1, none⟩ = some (.bool (rd_T32 xs i).f1) ∧ w.cell? ⟨(ad.add (i.toNat * 5)).block, (ad.add (i.toNat * 5)).off + 2, none⟩ = some (.int .i64 (rd_T32 xs i).f2) ∧ w.cell? ⟨(ad.add (i.toNat * 5)).block, (ad.add (i.toNat * 5)).off + 3, none⟩ = some (.slice A3 (rd_T32 xs i).f3.length c3) ∧ w.cell? ⟨(ad.add (i.toNat * 5)).block, (ad.add (i.toNat * 5)).off + 4, none⟩ = some (.slice A4 (rd_T32 xs i).f4.length c4) ∧ (rd_T32 xs i).f3.length ≤ c3 ∧ Kd.string.C w A3 (rd_T32 xs i).f3.length (rd_T32 xs i).f3 ∧ (rd_T32 xs i).f4.length ≤ c4 ∧ k34.C w A4 (rd_T32 xs i).f4.length (rd_T32 xs i).f4 := by
  obtain ⟨ad, c, e, _, hK, hc0⟩ := Kd.C_get h z32 i h0 h1
  have hc : ∀ j u, c[j]? = some u → w.cell? (ad.add (i.toNat * 5 + j)) = some u := hc0
  obtain ⟨A3, c3, A4, c4, rfl, l3, g3, l4, g4⟩ := k32_open hK
  exact ⟨ad, A3, c3, A4, c4, e, hc 0 _ rfl, by rw [← add_field _ _ 1 (by omega)]; exact hc 1 _ rfl, by rw [← add_field _ _ 2 (by omega)]; exact hc 2 _ rfl, by rw [← add_field _ _ 3 (by omega)]; exact hc 3 _ rfl, by rw [← add_field _ _ 4 (by omega)]; exact hc 4 _ rfl, l3, g3, l4, g4⟩
structure S28 where
  f0 : Int
  f1 : ByteArray
  f2 : ByteArray
  f3 : Int
  f4 : Int
def z28 : S28 := ⟨(0 : Int), (⟨#[]⟩ : ByteArray), (⟨#[]⟩ : ByteArray), (0 : Int), (0 : Int)⟩
def k28 : Kd S28 := Kd.iso (Kd.pair (Kd.int .i64) (Kd.pair Kd.string (Kd.pair Kd.string (Kd.pair (Kd.int .i64) (Kd.int .i64))))) (fun x : S28 => (x.f0, x.f1, x.f2, x.f3, x.f4))
theorem k28_open {w : World} {x : S28} {cs : List Value} (h : k28.K w x cs) : cs = [.int .i64 x.f0, .string x.f1, .string x.f2, .int .i64 x.f3, .int .i64 x.f4] := by
  obtain ⟨_, _, rfl, rfl, ⟨_, _, rfl, rfl, ⟨_, _, rfl, rfl, ⟨_, _, rfl, rfl, rfl⟩⟩⟩⟩ := h
  exact rfl
theorem k28_mkM (w : World) (base : Nat) (ok : Nat → Prop) (x : S28)  : k28.M w base ok x [.int .i64 x.f0, .string x.f1, .string x.f2, .int .i64 x.f3, .int .i64 x.f4] := ⟨[.int .i64 x.f0], [.string x.f1, .string x.f2, .int .i64 x.f3, .int .i64 x.f4], rfl, rfl, ⟨[.string x.f1], [.string x.f2, .int .i64 x.f3, .int .i64 x.f4], rfl, rfl, ⟨[.string x.f2], [.int .i64 x.f3, .int .i64 x.f4], rfl, rfl, ⟨[.int .i64 x.f3], [.int .i64 x.f4], rfl, rfl, rfl⟩⟩⟩⟩
def rd_T28 (xs : List S28) (i : Int) : S28 := xs.getD i.toNat z28
theorem at_T28 {w : World} {A : Option Addr} {n : Nat} {xs : List S28} (h : Kd.C k28 w A n xs) (i : Int) (h0 : 0 ≤ i) (h1 : i < n) : ∃ ad , A = some ad ∧ w.cell? (ad.add (i.toNat * 5)) = some (.int .i64 (rd_T28 xs i).f0) ∧ w.cell? ⟨(ad.add (i.toNat * 5)).block, (ad.add (i.toNat * 5)).off + 1, none⟩ = some (.string (rd_T28 xs i).f1) ∧ w.cell? ⟨(ad.add (i.toNat * 5)).block, (ad.add (i.toNat * 5)).off + 2, none⟩ = some (.string (rd_T28 xs i).f2) ∧ w.cell? ⟨(ad.add (i.toNat * 5)).block, (ad.add (i.toNat * 5)).off + 3, none⟩ = some (.int .i64 (rd_T28 xs i).f3) ∧ w.cell? ⟨(ad.add (i.toNat * 5)).block, (ad.add (i.toNat * 5)).off + 4, none⟩ = some (.int .i64 (rd_T28 xs i).f4) := by
  obtain ⟨ad, c, e, _, hK, hc0⟩ := Kd.C_get h z28 i h0 h1
  have hc : ∀ j u, c[j]? = some u → w.cell? (ad.add (i.toNat * 5 + j)) = some u := hc0
  obtain rfl := k28_open hK
  exact ⟨ad, e, hc 0 _ rfl, by rw [← add_field _ _ 1 (by omega)]; exact hc 1 _ rfl, by rw [← add_field _ _ 2 (by omega)]; exact hc 2 _ rfl, by rw [← add_field _ _ 3 (by omega)]; exact hc 3 _ rfl, by rw [← add_field _ _ 4 (by omega)]; exact hc 4 _ rfl⟩
end Go.Proofs.Ytoimkmoalmmooaa.QA
namespace Go.Proofs.Ytoimkmoalmmooaa.QA
open Go.Proofs.Ytoimkmoalmmooaa.Given
open Go.Proofs.Ytoimkmoalmmooaa.PrX
open Go.RowKit Go.Proofs.YtoimkmoalmmooaaW.PrintWords Go.Proofs.YtoimkmoalmmooaaW.PrintLast Go.Proofs.YtoimkmoalmmooaaW.PrintMore
set_option linter.unusedVariables false
set_option linter.unusedSimpArgs false
def laws_zzFits6.l0 : Nat → List ByteArray → Int → Int → Option (Bool)
  | 0, _, _, _ => none
  | k + 1, x8, x9, x10 => if x10 < x9 then (if 0 ≤ x10 then (if x10 < (x8.length : Int) then (if ((rdOf ByteArray.empty x8 x10).size : Int) > 2147483647 then (some false) else (laws_zzFits6.l0 k x8 x9 (wrap64 (x10 + 1)))) else (none)) else (none)) else (some true)
def laws_zzFits6.f (k : Nat) (l0 : List ByteArray) : Option (Bool) := if (l0.length : Int) > 2147483647 then (some false) else (laws_zzFits6.l0 k l0 (l0.length : Int) 0)
set_option maxHeartbeats 8000000 in
set_option maxRecDepth 100000 in
theorem laws_zzFits6.calls (k : Nat) (A0 : Option Addr) (c0 : Nat) (l0 : List ByteArray) (r : Bool) (w : World) (hr0 : Kd.C Kd.string w A0 l0.length l0) (hc0 : l0.length ≤ c0) (h : laws_zzFits6.f k l0 = some r) :
    Calls Try.prog 8 #[.slice A0 l0.length c0] w fun e w' => e = .returned (.bool r) ∧ Drawn0 w w' := by
  have HR0 := Aside0.mk hr0
  have HC0 := Aside0.mk hc0
  clear hr0 hc0
  have H : (if (l0.length : Int) > 2147483647 then (some false) else (laws_zzFits6.l0 k l0 (l0.length : Int) 0)) = some r := h
  clear h
  by_cases c2 : (l0.length : Int) > 2147483647
  · rw [if_pos c2] at H
    have c2b0 : decide (2147483647 < (l0.length : Int)) = true := decide_eq_true c2
    have c2b1 : decide (2147483647 < l0.length) = true := decide_eq_true (by omega)
    clear c2
    obtain rfl := Option.some.inj H
    go_enter Try.func8, Try.ntmps8
    go_wp2
    go_ret
    exact ⟨by first | rfl | (simp; done) | (rw [prx_ne]; first | done | rfl) | (simp [*]; done), by repeat (first | exact Drawn0.refl _ | apply Drawn0.step)⟩
  · rw [if_neg c2] at H
    have c2b0 : decide (2147483647 < (l0.length : Int)) = false := decide_eq_false c2
    have c2b1 : decide (2147483647 < l0.length) = false := decide_eq_false (by omega)
    clear c2
    have H' := Aside0.mk H
    clear H
    go_enter Try.func8, Try.ntmps8
    go_wp2
    go_loopg [10] k (fun kq v10 w' => ∃ (x10_1 : Int), v10 = .int .i64 x10_1 ∧ Aside0 (laws_zzFits6.l0 kq l0 (l0.length : Int) x10_1 = some r) ∧ Aside0 (kq ≤ k) ∧ Drawn0 w w')
    case atStart => exact ⟨(0), (by first | rfl | (simp; done) | (rw [prx_ne]; first | done | rfl) | (simp [*]; done)), H', ⟨Nat.le_refl _⟩, by repeat (first | exact Drawn0.refl _ | apply Drawn0.step)⟩
    case round =>
      clear H'
      try clear c2
      try clear c2b0
      try clear c2b1
      try clear p2
      obtain ⟨x10_1, rfl, HA, HK1, ⟨m1, rfl⟩⟩ := hrel
      cases gk with
      | zero => exact absurd HA.out (by simp [laws_zzFits6.l0])
      | succ k1 =>
        have H := HA.out
        clear HA
        simp only [laws_zzFits6.l0] at H
        by_cases c3 : x10_1 < (l0.length : Int)
        · rw [if_pos c3] at H
          have c3b0 : decide (x10_1 < (l0.length : Int)) = true := decide_eq_true c3
          clear c3
          by_cases c4 : 0 ≤ x10_1
          · rw [if_pos c4] at H
            have c4b0 : decide (0 ≤ x10_1) = true := decide_eq_true c4
            clear c4
            by_cases c5 : x10_1 < (l0.length : Int)
            · rw [if_pos c5] at H
              have c5b0 : decide (x10_1 < (l0.length : Int)) = true := decide_eq_true c5
              clear c5
              by_cases c6 : ((rdOf ByteArray.empty l0 x10_1).size : Int) > 2147483647
              · rw [if_pos c6] at H
                have c6b0 : decide (2147483647 < ((rdOf ByteArray.empty l0 x10_1).size : Int)) = true := decide_eq_true c6
                have c6b1 : decide (2147483647 < (rdOf ByteArray.empty l0 x10_1).size) = true := decide_eq_true (by omega)
                clear c6
                obtain rfl := Option.some.inj H
                have p229 : 0 ≤ (x10_1 : Int) := of_decide_eq_true (by first | (with_reducible assumption) | assumption)
                have q229 : x10_1 < (l0.length : Int) := of_decide_eq_true (by first | (with_reducible assumption) | assumption)
                obtain ⟨ad229, e229, hx229_0⟩ := Kd.at_string HR0.out x10_1 p229 q229
                cases e229
                replace p229 := eq_true p229
                replace q229 := eq_true q229
                go_wp2
                go_ret
                exact ⟨by first | rfl | (simp; done) | (rw [prx_ne]; first | done | rfl) | (simp [*]; done), by repeat (first | exact Drawn0.refl _ | apply Drawn0.step)⟩
              · rw [if_neg c6] at H
                have c6b0 : decide (2147483647 < ((rdOf ByteArray.empty l0 x10_1).size : Int)) = false := decide_eq_false c6
                have c6b1 : decide (2147483647 < (rdOf ByteArray.empty l0 x10_1).size) = false := decide_eq_false (by omega)
                clear c6
                have H' := Aside0.mk H
                clear H
                have p229 : 0 ≤ (x10_1 : Int) := of_decide_eq_true (by first | (with_reducible assumption) | assumption)
                have q229 : x10_1 < (l0.length : Int) := of_decide_eq_true (by first | (with_reducible assumption) | assumption)
                obtain ⟨ad229, e229, hx229_0⟩ := Kd.at_string HR0.out x10_1 p229 q229
                cases e229
                replace p229 := eq_true p229
                replace q229 := eq_true q229
                go_wp2
                go_roundg k1
                case measure => have := HK1.out; omega
                case rel => exact ⟨(wrap64 (x10_1 + 1)), (by first | rfl | (simp; done) | (rw [prx_ne]; first | done | rfl) | (simp [*]; done)), H', ⟨by have := HK1.out; omega⟩, by repeat (first | exact Drawn0.refl _ | apply Drawn0.step)⟩
            · rw [if_neg c5] at H
              exact absurd H (by simp)
          · rw [if_neg c4] at H
            exact absurd H (by simp)
        · rw [if_neg c3] at H
          have c3b0 : decide (x10_1 < (l0.length : Int)) = false := decide_eq_false c3
          clear c3
          obtain rfl := Option.some.inj H
          go_wp2
          go_ret
          exact ⟨by first | rfl | (simp; done) | (rw [prx_ne]; first | done | rfl) | (simp [*]; done), by repeat (first | exact Drawn0.refl _ | apply Drawn0.step)⟩
end Go.Proofs.Ytoimkmoalmmooaa.QA
namespace Go.Proofs.Ytoimkmoalmmooaa.QA
open Go.Proofs.Ytoimkmoalmmooaa.Given
open Go.Proofs.Ytoimkmoalmmooaa.PrX
open Go.RowKit Go.Proofs.YtoimkmoalmmooaaW.PrintWords Go.Proofs.YtoimkmoalmmooaaW.PrintLast Go.Proofs.YtoimkmoalmmooaaW.PrintMore
set_option linter.unusedVariables false
set_option linter.unusedSimpArgs false
def laws_word.l0 : Nat → ByteArray → Int → Int → Option (Bool)
  | 0, _, _, _ => none
  | k + 1, x0, x6, x7 => if x7 < x6 then (if 0 ≤ x7 then (if x7 < (x0.size : Int) then (if (Go.bits .or .u8 (bt x0 x7) 32) < 97 then (if (bt x0 x7) < 48 then (some false) else (if (bt x0 x7) > 57 then (some false) else (laws_word.l0 k x0 x6 (wrap64 (x7 + 1))))) else (if (Go.bits .or .u8 (bt x0 x7) 32) > 122 then (if (bt x0 x7) < 48 then (some false) else (if (bt x0 x7) > 57 then (some false) else (laws_word.l0 k x0 x6 (wrap64 (x7 + 1))))) else (laws_word.l0 k x0 x6 (wrap64 (x7 + 1))))) else (none)) else (none)) else (some (x0.toList != ([] : List UInt8)))
def laws_word.f (k : Nat) (a0 : ByteArray) : Option (Bool) := laws_word.l0 k a0 (a0.size : Int) 0
set_option maxHeartbeats 8000000 in
set_option maxRecDepth 100000 in
theorem laws_word.calls (k : Nat) (a0 : ByteArray) (r : Bool) (w : World) (h : laws_word.f k a0 = some r) :
    Calls Try.prog 16 #[.string a0] w fun e w' => e = .returned (.bool r) ∧ Drawn0 w w' := by
  have H : (laws_word.l0 k a0 (a0.size : Int) 0) = some r := h
  clear h
  have H' := Aside0.mk H
  clear H
  go_enter Try.func16, Try.ntmps16
  go_wp2
  go_loopg [7] k (fun kq v7 w' => ∃ (x7_1 : Int), v7 = .int .i64 x7_1 ∧ Aside0 (laws_word.l0 kq a0 (a0.size : Int) x7_1 = some r) ∧ Aside0 (kq ≤ k) ∧ Drawn0 w w')
  case atStart => exact ⟨(0), (by first | rfl | (simp; done) | (rw [prx_ne]; first | done | rfl) | (simp [*]; done)), H', ⟨Nat.le_refl _⟩, by repeat (first | exact Drawn0.refl _ | apply Drawn0.step)⟩
  case round =>
    clear H'
    try clear c1
    obtain ⟨x7_1, rfl, HA, HK1, ⟨m1, rfl⟩⟩ := hrel
    cases gk with
    | zero => exact absurd HA.out (by simp [laws_word.l0])
    | succ k1 =>
      have H := HA.out
      clear HA
      simp only [laws_word.l0] at H
      by_cases c2 : x7_1 < (a0.size : Int)
      · rw [if_pos c2] at H
        have c2b0 : decide (x7_1 < (a0.size : Int)) = true := decide_eq_true c2
        clear c2
        by_cases c3 : 0 ≤ x7_1
        · rw [if_pos c3] at H
          have c3b0 : decide (0 ≤ x7_1) = true := decide_eq_true c3
          clear c3
          by_cases c4 : x7_1 < (a0.size : Int)
          · rw [if_pos c4] at H
            have c4b0 : decide (x7_1 < (a0.size : Int)) = true := decide_eq_true c4
            clear c4
            by_cases c6 : (Go.bits .or .u8 (bt a0 x7_1) 32) < 97
            · rw [if_pos c6] at H
              have c6b0 : decide ((Go.bits .or .u8 (bt a0 x7_1) 32) < 97) = true := decide_eq_true c6
              clear c6
              by_cases c8 : (bt a0 x7_1) < 48
              · rw [if_pos c8] at H
                have c8b0 : decide ((bt a0 x7_1) < 48) = true := decide_eq_true c8
                clear c8
                obtain rfl := Option.some.inj H
                have p5 : 0 ≤ (x7_1 : Int) := of_decide_eq_true (by first | (with_reducible assumption) | assumption)
                have q5 : x7_1 < (a0.size : Int) := of_decide_eq_true (by first | (with_reducible assumption) | assumption)
                have hx5 := bt_at a0 x7_1
                replace p5 := eq_true p5
                replace q5 := eq_true q5
                have p7 : 0 ≤ (x7_1 : Int) := of_decide_eq_true (by first | (with_reducible assumption) | assumption)
                have q7 : x7_1 < (a0.size : Int) := of_decide_eq_true (by first | (with_reducible assumption) | assumption)
                have hx7 := bt_at a0 x7_1
                replace p7 := eq_true p7
                replace q7 := eq_true q7
                go_wp2
                go_ret
                exact ⟨by first | rfl | (simp; done) | (rw [prx_ne]; first | done | rfl) | (simp [*]; done), by repeat (first | exact Drawn0.refl _ | apply Drawn0.step)⟩
              · rw [if_neg c8] at H
                have c8b0 : decide ((bt a0 x7_1) < 48) = false := decide_eq_false c8
                clear c8
                by_cases c10 : (bt a0 x7_1) > 57
                · rw [if_pos c10] at H
                  have c10b0 : decide (57 < (bt a0 x7_1)) = true := decide_eq_true c10
                  clear c10
                  obtain rfl := Option.some.inj H
                  have p5 : 0 ≤ (x7_1 : Int) := of_decide_eq_true (by first | (with_reducible assumption) | assumption)
                  have q5 : x7_1 < (a0.size : Int) := of_decide_eq_true (by first | (with_reducible assumption) | assumption)
                  have hx5 := bt_at a0 x7_1
                  replace p5 := eq_true p5
                  replace q5 := eq_true q5
                  have p7 : 0 ≤ (x7_1 : Int) := of_decide_eq_true (by first | (with_reducible assumption) | assumption)
                  have q7 : x7_1 < (a0.size : Int) := of_decide_eq_true (by first | (with_reducible assumption) | assumption)
                  have hx7 := bt_at a0 x7_1
                  replace p7 := eq_true p7
                  replace q7 := eq_true q7
                  have p9 : 0 ≤ (x7_1 : Int) := of_decide_eq_true (by first | (with_reducible assumption) | assumption)
                  have q9 : x7_1 < (a0.size : Int) := of_decide_eq_true (by first | (with_reducible assumption) | assumption)
                  have hx9 := bt_at a0 x7_1
                  replace p9 := eq_true p9
                  replace q9 := eq_true q9
                  go_wp2
                  go_ret
                  exact ⟨by first | rfl | (simp; done) | (rw [prx_ne]; first | done | rfl) | (simp [*]; done), by repeat (first | exact Drawn0.refl _ | apply Drawn0.step)⟩
                · rw [if_neg c10] at H
                  have c10b0 : decide (57 < (bt a0 x7_1)) = false := decide_eq_false c10
                  clear c10
                  have H' := Aside0.mk H
                  clear H
                  have p5 : 0 ≤ (x7_1 : Int) := of_decide_eq_true (by first | (with_reducible assumption) | assumption)
                  have q5 : x7_1 < (a0.size : Int) := of_decide_eq_true (by first | (with_reducible assumption) | assumption)
                  have hx5 := bt_at a0 x7_1
                  replace p5 := eq_true p5
                  replace q5 := eq_true q5
                  have p7 : 0 ≤ (x7_1 : Int) := of_decide_eq_true (by first | (with_reducible assumption) | assumption)
                  have q7 : x7_1 < (a0.size : Int) := of_decide_eq_true (by first | (with_reducible assumption) | assumption)
                  have hx7 := bt_at a0 x7_1
                  replace p7 := eq_true p7
                  replace q7 := eq_true q7
                  have p9 : 0 ≤ (x7_1 : Int) := of_decide_eq_true (by first | (with_reducible assumption) | assumption)
                  have q9 : x7_1 < (a0.size : Int) := of_decide_eq_true (by first | (with_reducible assumption) | assumption)
                  have hx9 := bt_at a0 x7_1
                  replace p9 := eq_true p9
                  replace q9 := eq_true q9
                  go_wp2
                  go_roundg k1
                  case measure => have := HK1.out; omega
                  case rel => exact ⟨(wrap64 (x7_1 + 1)), (by first | rfl | (simp; done) | (rw [prx_ne]; first | done | rfl) | (simp [*]; done)), H', ⟨by have := HK1.out; omega⟩, by repeat (first | exact Drawn0.refl _ | apply Drawn0.step)⟩
            · rw [if_neg c6] at H
              have c6b0 : decide ((Go.bits .or .u8 (bt a0 x7_1) 32) < 97) = false := decide_eq_false c6
              clear c6
              by_cases c11 : (Go.bits .or .u8 (bt a0 x7_1) 32) > 122
              · rw [if_pos c11] at H
                have c11b0 : decide (122 < (Go.bits .or .u8 (bt a0 x7_1) 32)) = true := decide_eq_true c11
                clear c11
                by_cases c13 : (bt a0 x7_1) < 48
                · rw [if_pos c13] at H
                  have c13b0 : decide ((bt a0 x7_1) < 48) = true := decide_eq_true c13
                  clear c13
                  obtain rfl := Option.some.inj H
                  have p5 : 0 ≤ (x7_1 : Int) := of_decide_eq_true (by first | (with_reducible assumption) | assumption)
                  have q5 : x7_1 < (a0.size : Int) := of_decide_eq_true (by first | (with_reducible assumption) | assumption)
                  have hx5 := bt_at a0 x7_1
                  replace p5 := eq_true p5
                  replace q5 := eq_true q5
                  have p12 : 0 ≤ (x7_1 : Int) := of_decide_eq_true (by first | (with_reducible assumption) | assumption)
                  have q12 : x7_1 < (a0.size : Int) := of_decide_eq_true (by first | (with_reducible assumption) | assumption)
                  have hx12 := bt_at a0 x7_1
                  replace p12 := eq_true p12
                  replace q12 := eq_true q12
                  go_wp2
                  go_ret
                  exact ⟨by first | rfl | (simp; done) | (rw [prx_ne]; first | done | rfl) | (simp [*]; done), by repeat (first | exact Drawn0.refl _ | apply Drawn0.step)⟩
                · rw [if_neg c13] at H
                  have c13b0 : decide ((bt a0 x7_1) < 48) = false := decide_eq_false c13
                  clear c13
                  by_cases c15 : (bt a0 x7_1) > 57
                  · rw [if_pos c15] at H
                    have c15b0 : decide (57 < (bt a0 x7_1)) = true := decide_eq_true c15
                    clear c15
                    obtain rfl := Option.some.inj H
                    have p5 : 0 ≤ (x7_1 : Int) := of_decide_eq_true (by first | (with_reducible assumption) | assumption)
                    have q5 : x7_1 < (a0.size : Int) := of_decide_eq_true (by first | (with_reducible assumption) | assumption)
                    have hx5 := bt_at a0 x7_1
                    replace p5 := eq_true p5
                    replace q5 := eq_true q5
                    have p12 : 0 ≤ (x7_1 : Int) := of_decide_eq_true (by first | (with_reducible assumption) | assumption)
                    have q12 : x7_1 < (a0.size : Int) := of_decide_eq_true (by first | (with_reducible assumption) | assumption)
                    have hx12 := bt_at a0 x7_1
                    replace p12 := eq_true p12
                    replace q12 := eq_true q12
                    have p14 : 0 ≤ (x7_1 : Int) := of_decide_eq_true (by first | (with_reducible assumption) | assumption)
                    have q14 : x7_1 < (a0.size : Int) := of_decide_eq_true (by first | (with_reducible assumption) | assumption)
                    have hx14 := bt_at a0 x7_1
                    replace p14 := eq_true p14
                    replace q14 := eq_true q14
                    go_wp2
                    go_ret
                    exact ⟨by first | rfl | (simp; done) | (rw [prx_ne]; first | done | rfl) | (simp [*]; done), by repeat (first | exact Drawn0.refl _ | apply Drawn0.step)⟩
                  · rw [if_neg c15] at H
                    have c15b0 : decide (57 < (bt a0 x7_1)) = false := decide_eq_false c15
                    clear c15
                    have H' := Aside0.mk H
                    clear H
                    have p5 : 0 ≤ (x7_1 : Int) := of_decide_eq_true (by first | (with_reducible assumption) | assumption)
                    have q5 : x7_1 < (a0.size : Int) := of_decide_eq_true (by first | (with_reducible assumption) | assumption)
                    have hx5 := bt_at a0 x7_1
                    replace p5 := eq_true p5
                    replace q5 := eq_true q5
                    have p12 : 0 ≤ (x7_1 : Int) := of_decide_eq_true (by first | (with_reducible assumption) | assumption)
                    have q12 : x7_1 < (a0.size : Int) := of_decide_eq_true (by first | (with_reducible assumption) | assumption)
                    have hx12 := bt_at a0 x7_1
                    replace p12 := eq_true p12
                    replace q12 := eq_true q12
                    have p14 : 0 ≤ (x7_1 : Int) := of_decide_eq_true (by first | (with_reducible assumption) | assumption)
                    have q14 : x7_1 < (a0.size : Int) := of_decide_eq_true (by first | (with_reducible assumption) | assumption)
                    have hx14 := bt_at a0 x7_1
                    replace p14 := eq_true p14
                    replace q14 := eq_true q14
                    go_wp2
                    go_roundg k1
                    case measure => have := HK1.out; omega
                    case rel => exact ⟨(wrap64 (x7_1 + 1)), (by first | rfl | (simp; done) | (rw [prx_ne]; first | done | rfl) | (simp [*]; done)), H', ⟨by have := HK1.out; omega⟩, by repeat (first | exact Drawn0.refl _ | apply Drawn0.step)⟩
              · rw [if_neg c11] at H
                have c11b0 : decide (122 < (Go.bits .or .u8 (bt a0 x7_1) 32)) = false := decide_eq_false c11
                clear c11
                have H' := Aside0.mk H
                clear H
                have p5 : 0 ≤ (x7_1 : Int) := of_decide_eq_true (by first | (with_reducible assumption) | assumption)
                have q5 : x7_1 < (a0.size : Int) := of_decide_eq_true (by first | (with_reducible assumption) | assumption)
                have hx5 := bt_at a0 x7_1
                replace p5 := eq_true p5
                replace q5 := eq_true q5
                go_wp2
                go_roundg k1
                case measure => have := HK1.out; omega
                case rel => exact ⟨(wrap64 (x7_1 + 1)), (by first | rfl | (simp; done) | (rw [prx_ne]; first | done | rfl) | (simp [*]; done)), H', ⟨by have := HK1.out; omega⟩, by repeat (first | exact Drawn0.refl _ | apply Drawn0.step)⟩
          · rw [if_neg c4] at H
            exact absurd H (by simp)
        · rw [if_neg c3] at H
          exact absurd H (by simp)
      · rw [if_neg c2] at H
        have c2b0 : decide (x7_1 < (a0.size : Int)) = false := decide_eq_false c2
        clear c2
        obtain rfl := Option.some.inj H
        go_wp2
        go_ret
        exact ⟨by first | rfl | (simp; done) | (rw [prx_ne]; first | done | rfl) | (simp [*]; done), by repeat (first | exact Drawn0.refl _ | apply Drawn0.step)⟩
end Go.Proofs.Ytoimkmoalmmooaa.QA
namespace Go.Proofs.Ytoimkmoalmmooaa.QA
open Go.Proofs.Ytoimkmoalmmooaa.Given
open Go.Proofs.Ytoimkmoalmmooaa.PrX
open Go.RowKit Go.Proofs.YtoimkmoalmmooaaW.PrintWords Go.Proofs.YtoimkmoalmmooaaW.PrintLast Go.Proofs.YtoimkmoalmmooaaW.PrintMore
set_option linter.unusedVariables false
set_option linter.unusedSimpArgs false
mutual
def laws_name.j0 : Nat → ByteArray → Bool → Option (Bool)
  | 0, _, _ => none
  | k + 1, x0, x17 => if x17 = true then (some false) else (laws_name.l0 k x0 (x0.size : Int) 0)
def laws_name.l0 : Nat → ByteArray → Int → Int → Option (Bool)
  | 0, _, _, _ => none
  | k + 1, x0, x19, x20 => if x20 < x19 then (if 0 ≤ x20 then (if x20 < (x0.size : Int) then (if (bt x0 x20) = 45 then (laws_name.l0 k x0 x19 (wrap64 (x20 + 1))) else (if x20 ≤ (wrap64 (x20 + 1)) then (if (wrap64 (x20 + 1)) ≤ (x0.size : Int) then ((laws_word.f k (x0.extract (x20 : Int).toNat ((wrap64 (x20 + 1)) : Int).toNat)).bind fun t266 => (if t266 = true then (laws_name.l0 k x0 x19 (wrap64 (x20 + 1))) else (some false))) else (none)) else (none))) else (none)) else (none)) else (some true)
end
def laws_name.f (k : Nat) (a0 : ByteArray) : Option (Bool) := if (a0.size : Int) < 2 then (laws_name.j0 k a0 true) else (if 0 < (a0.size : Int) then (if (Go.bits .or .u8 (bt a0 0) 32) = 120 then (laws_name.j0 k a0 (decide ((a0.size : Int) > 60))) else (laws_name.j0 k a0 true)) else (none))
set_option maxHeartbeats 8000000 in
set_option maxRecDepth 100000 in
theorem laws_name.calls (k : Nat) (a0 : ByteArray) (r : Bool) (w : World) (h : laws_name.f k a0 = some r) :
    Calls Try.prog 10 #[.string a0] w fun e w' => e = .returned (.bool r) ∧ Drawn0 w w' := by
  have H : (if (a0.size : Int) < 2 then (laws_name.j0 k a0 true) else (if 0 < (a0.size : Int) then (if (Go.bits .or .u8 (bt a0 0) 32) = 120 then (laws_name.j0 k a0 (decide ((a0.size : Int) > 60))) else (laws_name.j0 k a0 true)) else (none))) = some r := h
  clear h
  have HC2 := Aside0.mk H
  clear H
  go_enter Try.func10, Try.ntmps10
  go_upto_region 1 with (fail)
  go_cut [17] (fun v17 wc => ∃ (kq : Nat) (x17_1 : Bool), v17 = .bool x17_1 ∧ Aside0 (laws_name.j0 kq a0 x17_1 = some r) ∧ Aside0 (kq ≤ k) ∧ Drawn0 w wc)
  case first =>
    have H := HC2.out
    clear HC2
    by_cases c3 : (a0.size : Int) < 2
    · rw [if_pos c3] at H
      have c3b0 : decide ((a0.size : Int) < 2) = true := decide_eq_true c3
      have c3b1 : decide (a0.size < 2) = true := decide_eq_true (by omega)
      clear c3
      (first | rw [c3b0] | (simp only [i64_w, i32_w]; rw [c3b0]) | skip)
      have H' := Aside0.mk H
      clear H
      go_wp2
      go_meet
      case rel => exact ⟨_, (true), (by first | rfl | (simp; done) | (rw [prx_ne]; first | done | rfl) | (simp [*]; done)), H', ⟨by first | omega | exact Nat.le_refl _⟩, by repeat (first | exact Drawn0.refl _ | apply Drawn0.step)⟩
    · rw [if_neg c3] at H
      have c3b0 : decide ((a0.size : Int) < 2) = false := decide_eq_false c3
      have c3b1 : decide (a0.size < 2) = false := decide_eq_false (by omega)
      clear c3
      (first | rw [c3b0] | (simp only [i64_w, i32_w]; rw [c3b0]) | skip)
      by_cases c4 : 0 < (a0.size : Int)
      · rw [if_pos c4] at H
        have c4b0 : decide (0 < (a0.size : Int)) = true := decide_eq_true c4
        have c4b1 : decide (0 < a0.size) = true := decide_eq_true (by omega)
        clear c4
        by_cases c6 : (Go.bits .or .u8 (bt a0 0) 32) = 120
        · rw [if_pos c6] at H
          have c6b0 : ((Go.bits .or .u8 (bt a0 0) 32) == 120) = true := beq_iff_eq.mpr c6
          have c6b1 : ((Go.bits .or .u8 (bt a0 0) 32) != 120) = false := bne_eq_false_iff_eq.mpr c6
          clear c6
          have H' := Aside0.mk H
          clear H
          have p5 : 0 ≤ (0 : Int) := (by omega)
          have q5 : 0 < a0.size := (by have : (0 : Int) < (a0.size : Int) := of_decide_eq_true (by first | (with_reducible assumption) | assumption); omega)
          have hx5 : ∀ h : 0 < a0.size, ((a0[0]'h).toNat : Int) = bt a0 0 := bt_at a0 0
          clear p5
          have qi5 : (0 < (a0.size : Int)) = True := eq_true (of_decide_eq_true (by first | (with_reducible assumption) | assumption))
          replace q5 := eq_true q5
          go_wp2
          go_meet
          case rel => exact ⟨_, (decide ((a0.size : Int) > 60)), (by first | rfl | (simp; done) | (rw [prx_ne]; first | done | rfl) | (simp [*]; done)), H', ⟨by first | omega | exact Nat.le_refl _⟩, by repeat (first | exact Drawn0.refl _ | apply Drawn0.step)⟩
        · rw [if_neg c6] at H
          have c6b0 : ((Go.bits .or .u8 (bt a0 0) 32) == 120) = false := beq_eq_false_iff_ne.mpr c6
          have c6b1 : ((Go.bits .or .u8 (bt a0 0) 32) != 120) = true := bne_iff_ne.mpr c6
          have H' := Aside0.mk H
          clear H
          have p5 : 0 ≤ (0 : Int) := (by omega)
          have q5 : 0 < a0.size := (by have : (0 : Int) < (a0.size : Int) := of_decide_eq_true (by first | (with_reducible assumption) | assumption); omega)
          have hx5 : ∀ h : 0 < a0.size, ((a0[0]'h).toNat : Int) = bt a0 0 := bt_at a0 0
          clear p5
          have qi5 : (0 < (a0.size : Int)) = True := eq_true (of_decide_eq_true (by first | (with_reducible assumption) | assumption))
          replace q5 := eq_true q5
          go_wp2
          go_meet
          case rel => exact ⟨_, (true), (by first | rfl | (simp; done) | (rw [prx_ne]; first | done | rfl) | (simp [*]; done)), H', ⟨by first | omega | exact Nat.le_refl _⟩, by repeat (first | exact Drawn0.refl _ | apply Drawn0.step)⟩
      · rw [if_neg c4] at H
        exact absurd H (by simp)
  case rest =>
    clear HC2
    try clear c1
    try clear p2
    try clear c3
    try clear c3b0
    try clear c3b1
    try clear c4
    try clear c4b0
    try clear c4b1
    try clear p5
    try clear q5
    try clear hx5
    try clear qi5
    try clear c6
    try clear c6b0
    try clear c6b1
    try clear p5
    try clear q5
    obtain ⟨kq, x17_1, rfl, HA, HJ1, ⟨mc1, rfl⟩⟩ := hcut
    cases kq with
    | zero => exact absurd HA.out (by simp [laws_name.j0])
    | succ kj1 =>
      have H := HA.out
      clear HA
      simp only [laws_name.j0] at H
      by_cases c7 : x17_1 = true
      · subst c7
        have H1 : (some false) = some r := by rw [if_pos rfl] at H; exact H
        clear H
        have H := H1
        clear H1
        obtain rfl := Option.some.inj H
        go_wp2
        go_ret
        exact ⟨by first | rfl | (simp; done) | (rw [prx_ne]; first | done | rfl) | (simp [*]; done), by repeat (first | exact Drawn0.refl _ | apply Drawn0.step)⟩
      · replace c7 := Bool.eq_false_iff.mpr c7
        subst c7
        have H1 : (laws_name.l0 kj1 a0 (a0.size : Int) 0) = some r := by rw [if_neg (show ¬ (false = true) by decide)] at H; exact H
        clear H
        have H := H1
        clear H1
        have H' := Aside0.mk H
        clear H
        go_wp2
        go_loopg [20] kj1 (fun kq v20 w' => ∃ (x20_2 : Int), v20 = .int .i64 x20_2 ∧ Aside0 (laws_name.l0 kq a0 (a0.size : Int) x20_2 = some r) ∧ Aside0 (kq ≤ kj1) ∧ Drawn0 w w')
        case atStart => exact ⟨(0), (by first | rfl | (simp; done) | (rw [prx_ne]; first | done | rfl) | (simp [*]; done)), H', ⟨Nat.le_refl _⟩, by repeat (first | exact Drawn0.refl _ | apply Drawn0.step)⟩
        case round =>
          clear H'
          try clear c1
          try clear p2
          try clear c3
          try clear c3b0
          try clear c3b1
          try clear c4
          try clear c4b0
          try clear c4b1
          try clear p5
          try clear q5
          try clear hx5
          try clear qi5
          try clear c6
          try clear c6b0
          try clear c6b1
          try clear c7
          try clear p2
          try clear p5
          try clear q5
          obtain ⟨x20_2, rfl, HA, HK2, ⟨m2, rfl⟩⟩ := hrel
          cases gk with
          | zero => exact absurd HA.out (by simp [laws_name.l0])
          | succ k2 =>
            have H := HA.out
            clear HA
            simp only [laws_name.l0] at H
            by_cases c8 : x20_2 < (a0.size : Int)
            · rw [if_pos c8] at H
              have c8b0 : decide (x20_2 < (a0.size : Int)) = true := decide_eq_true c8
              clear c8
              by_cases c9 : 0 ≤ x20_2
              · rw [if_pos c9] at H
                have c9b0 : decide (0 ≤ x20_2) = true := decide_eq_true c9
                clear c9
                by_cases c10 : x20_2 < (a0.size : Int)
                · rw [if_pos c10] at H
                  have c10b0 : decide (x20_2 < (a0.size : Int)) = true := decide_eq_true c10
                  clear c10
                  by_cases c12 : (bt a0 x20_2) = 45
                  · rw [if_pos c12] at H
                    have c12b0 : ((bt a0 x20_2) == 45) = true := beq_iff_eq.mpr c12
                    have c12b1 : ((bt a0 x20_2) != 45) = false := bne_eq_false_iff_eq.mpr c12
                    clear c12
                    have H' := Aside0.mk H
                    clear H
                    have p11 : 0 ≤ (x20_2 : Int) := of_decide_eq_true (by first | (with_reducible assumption) | assumption)
                    have q11 : x20_2 < (a0.size : Int) := of_decide_eq_true (by first | (with_reducible assumption) | assumption)
                    have hx11 := bt_at a0 x20_2
                    replace p11 := eq_true p11
                    replace q11 := eq_true q11
                    go_wp2
                    go_roundg k2
                    case measure => have := HJ1.out; have := HK2.out; omega
                    case rel => exact ⟨(wrap64 (x20_2 + 1)), (by first | rfl | (simp; done) | (rw [prx_ne]; first | done | rfl) | (simp [*]; done)), H', ⟨by have := HJ1.out; have := HK2.out; omega⟩, by repeat (first | exact Drawn0.refl _ | apply Drawn0.step)⟩
                  · rw [if_neg c12] at H
                    have c12b0 : ((bt a0 x20_2) == 45) = false := beq_eq_false_iff_ne.mpr c12
                    have c12b1 : ((bt a0 x20_2) != 45) = true := bne_iff_ne.mpr c12
                    have c13b0 := eq_true (of_decide_eq_true (by first | (with_reducible assumption) | assumption) : 0 ≤ x20_2)
                    by_cases c14 : x20_2 ≤ (wrap64 (x20_2 + 1))
                    · rw [if_pos c14] at H
                      have c14b0 := eq_true c14
                      have c14b1 : decide (x20_2 ≤ (wrap64 (x20_2 + 1))) = true := decide_eq_true c14
                      by_cases c15 : (wrap64 (x20_2 + 1)) ≤ (a0.size : Int)
                      · rw [if_pos c15] at H
                        have c15b0 := eq_true c15
                        have c15b1 : decide ((wrap64 (x20_2 + 1)) ≤ (a0.size : Int)) = true := decide_eq_true c15
                        replace H := Option.bind_eq_some_iff.mp H
                        obtain ⟨t266, A160, H⟩ := H
                        replace H : (if t266 = true then (laws_name.l0 k2 a0 (a0.size : Int) (wrap64 (x20_2 + 1))) else (some false)) = some r := H
                        have A16 := Aside0.mk A160
                        clear A160
                        by_cases c17 : t266 = true
                        · subst c17
                          have H1 : (laws_name.l0 k2 a0 (a0.size : Int) (wrap64 (x20_2 + 1))) = some r := by rw [if_pos rfl] at H; exact H
                          clear H
                          have H := H1
                          clear H1
                          have H' := Aside0.mk H
                          clear H
                          have p11 : 0 ≤ (x20_2 : Int) := of_decide_eq_true (by first | (with_reducible assumption) | assumption)
                          have q11 : x20_2 < (a0.size : Int) := of_decide_eq_true (by first | (with_reducible assumption) | assumption)
                          have hx11 := bt_at a0 x20_2
                          replace p11 := eq_true p11
                          replace q11 := eq_true q11
                          go_wp2_with (first | (go_at_call 16; (with_reducible refine (laws_word.calls k2 (a0.extract (x20_2 : Int).toNat ((wrap64 (x20_2 + 1)) : Int).toNat) true _ A16.out).mono ?_); rintro e w' ⟨rfl, ⟨nd, rfl⟩⟩))
                          go_roundg k2
                          case measure => have := HJ1.out; have := HK2.out; omega
                          case rel => exact ⟨(wrap64 (x20_2 + 1)), (by first | rfl | (simp; done) | (rw [prx_ne]; first | done | rfl) | (simp [*]; done)), H', ⟨by have := HJ1.out; have := HK2.out; omega⟩, by repeat (first | exact Drawn0.refl _ | apply Drawn0.step)⟩
                        · replace c17 := Bool.eq_false_iff.mpr c17
                          subst c17
                          have H1 : (some false) = some r := by rw [if_neg (show ¬ (false = true) by decide)] at H; exact H
                          clear H
                          have H := H1
                          clear H1
                          obtain rfl := Option.some.inj H
                          have p11 : 0 ≤ (x20_2 : Int) := of_decide_eq_true (by first | (with_reducible assumption) | assumption)
                          have q11 : x20_2 < (a0.size : Int) := of_decide_eq_true (by first | (with_reducible assumption) | assumption)
                          have hx11 := bt_at a0 x20_2
                          replace p11 := eq_true p11
                          replace q11 := eq_true q11
                          go_wp2_with (first | (go_at_call 16; (with_reducible refine (laws_word.calls k2 (a0.extract (x20_2 : Int).toNat ((wrap64 (x20_2 + 1)) : Int).toNat) false _ A16.out).mono ?_); rintro e w' ⟨rfl, ⟨nd, rfl⟩⟩))
                          go_ret
                          exact ⟨by first | rfl | (simp; done) | (rw [prx_ne]; first | done | rfl) | (simp [*]; done), by repeat (first | exact Drawn0.refl _ | apply Drawn0.step)⟩
                      · rw [if_neg c15] at H
                        exact absurd H (by simp)
                    · rw [if_neg c14] at H
                      exact absurd H (by simp)
                · rw [if_neg c10] at H
                  exact absurd H (by simp)
              · rw [if_neg c9] at H
                exact absurd H (by simp)
            · rw [if_neg c8] at H
              have c8b0 : decide (x20_2 < (a0.size : Int)) = false := decide_eq_false c8
              clear c8
              obtain rfl := Option.some.inj H
              go_wp2
              go_ret
              exact ⟨by first | rfl | (simp; done) | (rw [prx_ne]; first | done | rfl) | (simp [*]; done), by repeat (first | exact Drawn0.refl _ | apply Drawn0.step)⟩
end Go.Proofs.Ytoimkmoalmmooaa.QA
namespace Go.Proofs.Ytoimkmoalmmooaa.Base
open Go.RowKit Go.Proofs.YtoimkmoalmmooaaW.PrintWords Go.Proofs.YtoimkmoalmmooaaW.PrintMore
def ns (s : ByteArray) : List Int := s.data.toList.map fun c => (c.toNat : Int)
theorem ns_length (s : ByteArray) : (ns s).length = s.size := by rw [ns, List.length_map, ← Lib.size_eq]
theorem bt_ns (s : ByteArray) (i : Nat) : bt s (i : Int) = (ns s).getD i 0 := by
  unfold bt ns
  simp only [Int.toNat_natCast]
  split
  · rename_i h
    rw [List.getD_eq_getElem?_getD, List.getElem?_map]
    have h' : i < s.data.toList.length := by rw [← Lib.size_eq]; exact h
    rw [List.getElem?_eq_getElem h']
    rfl
  · rename_i h
    have h' : s.data.toList.length ≤ i := by rw [← Lib.size_eq]; omega
    rw [List.getD_eq_getElem?_getD, List.getElem?_map, List.getElem?_eq_none h']
    rfl
theorem ns_range (s : ByteArray) (x : Int) (h : x ∈ ns s) : 0 ≤ x ∧ x ≤ 255 := by
  obtain ⟨c, _, rfl⟩ := List.mem_map.1 h
  have := c.toNat_lt
  omega
theorem ns_inj {a b : ByteArray} (h : ns a = ns b) : a = b := by
  have h1 : a.data.toList = b.data.toList := by
    have hf : ∀ x y : UInt8, (x.toNat : Int) = (y.toNat : Int) → x = y := fun x y e => UInt8.toNat_inj.1 (by omega)
    unfold ns at h
    exact List.map_inj_right hf |>.1 h
  rw [← Lib.mk_data a, ← Lib.mk_data b, h1]
theorem wrap_add {i : Int} (h0 : 0 ≤ i) (h : i ≤ 9223372036854775806) : wrap64 (i + 1) = i + 1 := by unfold wrap64; omega
def wB (x : Int) : Bool := (decide (65 ≤ x) && decide (x ≤ 90)) || (decide (97 ≤ x) && decide (x ≤ 122)) || (decide (48 ≤ x) && decide (x ≤ 57))
theorem or32_fin : ∀ n : Fin 256, (Go.bits .or .u8 ((n.val : Nat) : Int) 32 < 97 ∨ Go.bits .or .u8 ((n.val : Nat) : Int) 32 > 122) ↔ ¬ ((65 ≤ n.val ∧ n.val ≤ 90) ∨ (97 ≤ n.val ∧ n.val ≤ 122)) := by
  decide +kernel
theorem or32_lt (c : Int) (h0 : 0 ≤ c) (h1 : c ≤ 255) : (Go.bits .or .u8 c 32 < 97 ∨ Go.bits .or .u8 c 32 > 122) ↔ ¬ ((65 ≤ c ∧ c ≤ 90) ∨ (97 ≤ c ∧ c ≤ 122)) := by
  obtain ⟨n, rfl⟩ := Int.eq_ofNat_of_zero_le h0
  have h := or32_fin ⟨n, by omega⟩
  simp only at h
  omega
theorem word_round {α : Type} (c : Int) (h0 : 0 ≤ c) (h1 : c ≤ 255) (F T : α) :
    (if Go.bits .or .u8 c 32 < 97 then (if c < 48 then F else (if c > 57 then F else T)) else (if Go.bits .or .u8 c 32 > 122 then (if c < 48 then F else (if c > 57 then F else T)) else T)) = if wB c = true then T else F := by
  have h := or32_lt c h0 h1
  have hw : wB c = true ↔ (65 ≤ c ∧ c ≤ 90) ∨ (97 ≤ c ∧ c ≤ 122) ∨ (48 ≤ c ∧ c ≤ 57) := by simp [wB, or_assoc]
  by_cases hb : wB c = true
  · rw [if_pos hb]
    rw [hw] at hb
    by_cases a : Go.bits .or .u8 c 32 < 97
    · rw [if_pos a, if_neg (by omega), if_neg (by omega)]
    · rw [if_neg a]
      by_cases b : Go.bits .or .u8 c 32 > 122
      · rw [if_pos b, if_neg (by omega), if_neg (by omega)]
      · rw [if_neg b]
  · rw [if_neg hb]
    rw [hw] at hb
    by_cases a : Go.bits .or .u8 c 32 < 97
    · rw [if_pos a]
      by_cases d : c < 48
      · rw [if_pos d]
      · rw [if_neg d, if_pos (by omega)]
    · rw [if_neg a, if_pos (by omega)]
      by_cases d : c < 48
      · rw [if_pos d]
      · rw [if_neg d, if_pos (by omega)]
def isWord (s : ByteArray) : Bool := (ns s).all wB && !(ns s).isEmpty
theorem toList_ne_nil (s : ByteArray) : (s.toList != ([] : List UInt8)) = !(ns s).isEmpty := by
  rw [Lib.toList_data]
  unfold ns
  cases s.data.toList <;> rfl
theorem ns_append (a b : ByteArray) : ns (a ++ b) = ns a ++ ns b := by simp [ns, ByteArray.data_append]
theorem ns_extract (s : ByteArray) (i j : Nat) : ns (s.extract i j) = ((ns s).drop i).take (j - i) := by
  unfold ns
  rw [Lib.extract_data, List.map_take, List.map_drop]
theorem wB_ne {x : Int} (h : wB x = true) : x ≠ 32 ∧ x ≠ 34 ∧ x ≠ 44 ∧ x ≠ 45 ∧ x ≠ 46 ∧ x ≠ 47 ∧ x ≠ 58 ∧ x ≠ 59 ∧ x ≠ 61 ∧ x ≠ 91 ∧ x ≠ 92 ∧ x ≠ 93 ∧ x ≠ 9 ∧ x ≠ 10 ∧ x ≠ 13 ∧ x ≠ 42 := by
  simp only [wB, Bool.or_eq_true, Bool.and_eq_true, decide_eq_true_eq] at h
  omega
theorem ns_strOfNums {xs : List Int} (h : ∀ x ∈ xs, 0 ≤ x ∧ x ≤ 255) : ns (strOfNums xs) = xs := by
  unfold ns
  rw [strOfNums_data, List.map_map]
  conv => rhs; rw [← List.map_id xs]
  refine List.map_congr_left (fun x hx => ?_)
  have := h x hx
  simp only [Function.comp_apply, id_eq, UInt8.toNat_ofNat']
  omega
theorem rdOf_nat {α : Type} (d : α) (l : List α) (i : Nat) (h : i < l.length) : rdOf d l (i : Int) = l[i] := by
  unfold rdOf
  rw [Int.toNat_natCast, List.getD_eq_getElem?_getD, List.getElem?_eq_getElem h]
  rfl
theorem Ev.if_true {α : Type} {c : Prop} [Decidable c] {f g : Nat → Option α} {r : α} (h : c) (k : Ev f r) : Ev (fun n => if c then f n else g n) r := by
  simp only [if_pos h]; exact k
theorem Ev.if_false {α : Type} {c : Prop} [Decidable c] {f g : Nat → Option α} {r : α} (h : ¬ c) (k : Ev g r) : Ev (fun n => if c then f n else g n) r := by
  simp only [if_neg h]; exact k
theorem Ev.ite {α : Type} {c : Prop} [Decidable c] {f g : Nat → Option α} {r : α} (h : c → Ev f r) (k : ¬ c → Ev g r) : Ev (fun n => if c then f n else g n) r := by
  by_cases hc : c
  · exact Ev.if_true hc (h hc)
  · exact Ev.if_false hc (k hc)
theorem Ev.val {α : Type} {a r : α} (h : a = r) : Ev (fun _ => some a) r := h ▸ Ev.now a
theorem Ev.call {α β : Type} {g : Option α} {f : Nat → α → Option β} {a : α} {r : β} (h : g = some a) (k : Ev (fun n => f n a) r) : Ev (fun n => g.bind (f n)) r := by
  simp only [h, Option.bind_some]; exact k
end Go.Proofs.Ytoimkmoalmmooaa.Base
set_option linter.unusedVariables false
namespace Go.Proofs.Ytoimkmoalmmooaa.Gv
open Go.RowKit Go.Proofs.YtoimkmoalmmooaaW.PrintWords Go.Proofs.YtoimkmoalmmooaaW.PrintLast Go.Proofs.YtoimkmoalmmooaaW.PrintMore Go.Proofs.Ytoimkmoalmmooaa.Base
def Br (w : World) (e : TypeId) (g : Nat) (xs : List Int) : Prop :=
  ∃ cur fr, w.heap[g]? = some (.cells cur e fr) ∧ (∀ j, j < xs.length → cur[j]? = some (.int .u8 (xs.getD j 0))) ∧ ∀ j, j < xs.length → ¬ (fr.1 ≤ j ∧ j < fr.2)
theorem Br.cell {w : World} {e : TypeId} {g : Nat} {xs : List Int} (h : Br w e g xs) (j : Nat) (hj : j < xs.length) : w.cell? ⟨g, j, none⟩ = some (.int .u8 (xs.getD j 0)) := by
  obtain ⟨cur, fr, hb, hc, _⟩ := h
  simp only [World.cell?, hb]
  exact hc j hj
theorem Br.free {w : World} {e : TypeId} {g : Nat} {xs : List Int} (h : Br w e g xs) (j : Nat) (hj : j < xs.length) : w.frozen? ⟨g, j, none⟩ = false := by
  obtain ⟨cur, fr, hb, _, hf⟩ := h
  have := hf j hj
  obtain ⟨lo, hi⟩ := fr
  simp only [World.frozen?, hb]
  simp only [Bool.and_eq_false_iff, decide_eq_false_iff_not]
  simp only at this
  omega
theorem Br.lt {w : World} {e : TypeId} {g : Nat} {xs : List Int} (h : Br w e g xs) : g < w.heap.size := by
  obtain ⟨cur, fr, hb, _⟩ := h
  exact (Array.getElem?_eq_some_iff.1 hb).1
theorem Br.set {w : World} {e : TypeId} {g : Nat} {xs : List Int} (h : Br w e g xs) (j : Nat) (v : Int) : Br (w.setCell ⟨g, j, none⟩ (.int .u8 v)) e g (xs.set j v) := by
  obtain ⟨cur, fr, hb, hc, hf⟩ := h
  refine ⟨cur.setIfInBounds j (.int .u8 v), fr, ?_, fun i hi => ?_, fun i hi => hf i (by simpa using hi)⟩
  · simp only [World.setCell, Array.getElem?_modify, if_true, hb, Option.map_some, Option.isSome_none, Bool.false_eq_true, if_false]
  · have hi' : i < xs.length := by simpa using hi
    have h1 := hc i hi'
    have hlt : i < cur.size := (Array.getElem?_eq_some_iff.1 h1).1
    rw [Array.getElem?_setIfInBounds, List.getD_eq_getElem?_getD, List.getElem?_set]
    by_cases e1 : j = i
    · subst e1; simp [hlt, hi']
    · rw [if_neg e1, if_neg e1, h1, List.getD_eq_getElem?_getD]
theorem Br.same {w w' : World} {e : TypeId} {g : Nat} {xs : List Int} (h : Br w e g xs) (hb : w'.heap[g]? = w.heap[g]?) : Br w' e g xs := by
  obtain ⟨cur, fr, h1, h2⟩ := h
  exact ⟨cur, fr, hb.trans h1, h2⟩
theorem Br.below {w w' : World} {e : TypeId} {g : Nat} {xs : List Int} (h : Br w e g xs) (hb : Below w.heap.size w w') : Br w' e g xs := h.same (hb.block g h.lt)
theorem Br.conv (w : World) (e : TypeId) (s : ByteArray) : Br (Lib.bytesWorld w e s) e w.heap.size (ns s) := by
  refine ⟨_, _, Lib.bytesWorld_at_new w e s, fun j hj => ?_, fun j hj => ?_⟩
  · rw [ns_length] at hj
    have h := Lib.bytesWorld_cell w e s j hj
    simp only [World.cell?, Lib.bytesWorld_at_new] at h
    have h2 : (ns s).getD j 0 = ((s.data.toList.getD j 0).toNat : Int) := by
      unfold ns
      rw [List.getD_eq_getElem?_getD, List.getD_eq_getElem?_getD, List.getElem?_map]
      have : j < s.data.toList.length := by rw [← Lib.size_eq]; exact hj
      rw [List.getElem?_eq_getElem this]; rfl
    rw [h2]
    simpa using h
  · rw [ns_length] at hj
    have : s.size ≤ (Lib.bytesCells w e s).size := by simp [Lib.bytesCells]
    simp only
    omega
theorem conv_below (w : World) (e : TypeId) (s : ByteArray) : Below w.heap.size w (Lib.bytesWorld w e s) :=
  ⟨rfl, rfl, rfl, by rw [Lib.bytesWorld_size]; omega, fun i hi => Lib.bytesWorld_at_old w e s i hi⟩
theorem Br.text {P : Program} {w : World} {e src dst : TypeId} {g : Nat} {xs : List Int} (h : Br w e g xs) (hs : P.underlying src = some (.slice e)) (he : P.underlying e = some (.int .u8)) (hd : P.underlying dst = some .string) (cap : Nat) :
    (convert src dst (.slice (some ⟨g, 0, none⟩) xs.length cap)).run P w = .ok (.string (strOfNums xs)) w :=
  run_convert_bytes_arg w src e hs he g 0 xs.length cap xs rfl (fun i hi => by rw [Nat.zero_add]; exact h.cell i hi) dst hd
theorem Br.reads {w : World} {e : TypeId} {g : Nat} {xs : List Int} (h : Br w e g xs) (hl : xs.length ≤ 9223372036854775807) : ReadsOf (Value.int .u8) 0 w (some ⟨g, 0, none⟩) xs.length xs :=
  ⟨rfl, hl, fun _ => ⟨_, rfl, fun j hj => by rw [add_plain]; exact h.cell j hj⟩⟩
theorem wpList_index_tab {P : Program} {ops : Array Oper} {rest : List Oper} {o : Oper} {a : Act} {w : World} {Q : Exit → Act → World → Prop} (hgd : o.guard = none) (t : TypeId) (x i : Operand) (ho : o.op = .index t x i)
    (S : ByteArray) (n : Int) (k : IntKind) (hx : a.eval x = .string S) (hi : a.eval i = .int k n) (ht : P.underlying t = some .string) (h0 : 0 ≤ n) (h1 : n < S.size) (v : Int) (hv : bt S n = v)
    (h : wpList P ops Q rest (a.put o.dst (.int .u8 v)) w) : wpList P ops Q (o :: rest) a w :=
  wpList_plain hgd fun _ hK => by
    unfold Oper.wp execOp
    have hn : n.toNat < S.size := by omega
    have hb : ((S[n.toNat]'hn).toNat : Int) = v := by rw [← hv]; exact bt_at S n hn
    have hr : (Instr.index t (.string S) (.int k n)).run P w = .ok (.int .u8 v) w := by
      rw [← hb]
      simp [Instr.index, asIntOf, run_underlying ht, h0, hn]
    simp only [ho, hx, hi, Sem.run_bind, hr, Result.andThen_ok, Sem.run_pure]
    exact hK _ _ h
def TabIs (S : ByteArray) (f : Int → Int) : Prop := S.size = 256 ∧ ∀ n : Fin 256, bt S ((n.val : Nat) : Int) = f ((n.val : Nat) : Int)
instance (S : ByteArray) (f : Int → Int) : Decidable (TabIs S f) := inferInstanceAs (Decidable (_ ∧ _))
theorem wpList_index_fn {P : Program} {ops : Array Oper} {rest : List Oper} {o : Oper} {a : Act} {w : World} {Q : Exit → Act → World → Prop} (hgd : o.guard = none) (t : TypeId) (x i : Operand) (ho : o.op = .index t x i)
    (S : ByteArray) (n : Int) (k : IntKind) (hx : a.eval x = .string S) (hi : a.eval i = .int k n) (ht : P.underlying t = some .string) (h0 : 0 ≤ n) (h1 : n ≤ 255) (f : Int → Int) (hv : TabIs S f)
    (h : wpList P ops Q rest (a.put o.dst (.int .u8 (f n))) w) : wpList P ops Q (o :: rest) a w := by
  obtain ⟨m, rfl⟩ := Int.eq_ofNat_of_zero_le h0
  exact wpList_index_tab hgd t x i ho S _ k hx hi ht h0 (by rw [hv.1]; omega) _ (hv.2 ⟨m, by omega⟩) h
end Go.Proofs.Ytoimkmoalmmooaa.Gv
namespace Go.Proofs.Ytoimkmoalmmooaa.Gv
open Go.RowKit Go.Proofs.Ytoimkmoalmmooaa.Base
def lo (x : Int) : Int := if 65 ≤ x ∧ x ≤ 90 then x + 32 else x
def up (x : Int) : Int := if 97 ≤ x ∧ x ≤ 122 then x - 32 else x
def nkTail : List Int → List Int
  | [] => []
  | [x] => if x = 45 then [45] else [lo x]
  | x :: y :: l => if x = 45 then 45 :: up y :: nkTail l else lo x :: nkTail (y :: l)
def nk : List Int → List Int
  | [] => []
  | x :: l => up x :: nkTail l
theorem nkTail_hyp (y : Int) (l : List Int) : nkTail (45 :: y :: l) = 45 :: up y :: nkTail l := by simp [nkTail]
theorem nkTail_hyp1 : nkTail [45] = [45] := by simp [nkTail]
theorem nkTail_other (x : Int) (l : List Int) (h : x ≠ 45) : nkTail (x :: l) = lo x :: nkTail l := by
  cases l <;> simp [nkTail, h]
theorem nkTail_length : ∀ l : List Int, (nkTail l).length = l.length
  | [] => rfl
  | [x] => by unfold nkTail; split <;> rfl
  | x :: y :: l => by
    unfold nkTail
    split
    · simp [nkTail_length l]
    · simp [nkTail_length (y :: l)]
theorem nk_length (l : List Int) : (nk l).length = l.length := by
  cases l <;> simp [nk, nkTail_length]
theorem lo_range {x : Int} (h : 0 ≤ x ∧ x ≤ 255) : 0 ≤ lo x ∧ lo x ≤ 255 := by unfold lo; split <;> omega
theorem up_range {x : Int} (h : 0 ≤ x ∧ x ≤ 255) : 0 ≤ up x ∧ up x ≤ 255 := by unfold up; split <;> omega
theorem up_lo (x : Int) : up (lo x) = up x := by
  unfold up lo
  (repeat' split) <;> omega
theorem lo_lo (x : Int) : lo (lo x) = lo x := by
  unfold lo
  (repeat' split) <;> omega
theorem lo_45 (x : Int) : lo x = 45 ↔ x = 45 := by unfold lo; split <;> omega
theorem nkTail_lo : ∀ l : List Int, nkTail (l.map lo) = nkTail l
  | [] => rfl
  | [x] => by
    simp only [List.map_cons, List.map_nil, nkTail, lo_45, lo_lo]
  | x :: y :: l => by
    have h1 := nkTail_lo l
    have h2 := nkTail_lo (y :: l)
    simp only [List.map_cons] at h2
    simp only [List.map_cons, nkTail, lo_45, lo_lo, up_lo, h1, h2]
theorem nk_lo (l : List Int) : nk (l.map lo) = nk l := by
  cases l <;> simp [nk, nkTail_lo, up_lo]
theorem nkTail_range : ∀ l : List Int, (∀ x ∈ l, 0 ≤ x ∧ x ≤ 255) → ∀ x ∈ nkTail l, 0 ≤ x ∧ x ≤ 255
  | [], _ => by simp [nkTail]
  | [x], h => by
    have hx := h x (by simp)
    have := lo_range hx
    unfold nkTail
    split <;> simp <;> omega
  | x :: y :: l, h => by
    have h1 := nkTail_range l (fun z hz => h z (by simp [hz]))
    have h2 := nkTail_range (y :: l) (fun z hz => h z (List.mem_cons_of_mem _ hz))
    have hx := lo_range (h x (by simp))
    have hy := up_range (h y (by simp))
    intro z hz
    unfold nkTail at hz
    split at hz
    · rcases List.mem_cons.1 hz with rfl | hz
      · omega
      · rcases List.mem_cons.1 hz with rfl | hz
        · exact hy
        · exact h1 z hz
    · rcases List.mem_cons.1 hz with rfl | hz
      · exact hx
      · exact h2 z hz
theorem nk_range (l : List Int) (h : ∀ x ∈ l, 0 ≤ x ∧ x ≤ 255) : ∀ x ∈ nk l, 0 ≤ x ∧ x ≤ 255 := by
  cases l with
  | nil => simp [nk]
  | cons a l =>
    intro z hz
    rcases List.mem_cons.1 hz with rfl | hz
    · exact up_range (h a (by simp))
    · exact nkTail_range l (fun x hx => h x (List.mem_cons_of_mem _ hx)) z hz
end Go.Proofs.Ytoimkmoalmmooaa.Gv
set_option linter.unusedVariables false
namespace Go.Proofs.Ytoimkmoalmmooaa.Given
open Go.RowKit Go.Proofs.YtoimkmoalmmooaaW.PrintWords Go.Proofs.YtoimkmoalmmooaaW.PrintLast Go.Proofs.YtoimkmoalmmooaaW.PrintMore Go.Proofs.Ytoimkmoalmmooaa.Base Go.Proofs.Ytoimkmoalmmooaa.Gv
def laws_low.f (a0 : ByteArray) : Option ByteArray := if a0.size ≤ 4611686018427387904 then some (strOfNums ((ns a0).map lo)) else none
def loTo (xs : List Int) (k : Nat) : List Int := (xs.take k).map lo ++ xs.drop k
theorem loTo_length (xs : List Int) (k : Nat) : (loTo xs k).length = xs.length := by simp [loTo]; omega
theorem loTo_zero (xs : List Int) : loTo xs 0 = xs := by simp [loTo]
theorem loTo_all (xs : List Int) : loTo xs xs.length = xs.map lo := by simp [loTo]
theorem loTo_at (xs : List Int) (k : Nat) (h : k < xs.length) : (loTo xs k).getD k 0 = xs.getD k 0 := by
  rw [List.getD_eq_getElem?_getD, List.getD_eq_getElem?_getD, loTo, List.getElem?_append_right (by simp; omega)]
  simp [Nat.min_eq_left (Nat.le_of_lt h)]
theorem loTo_succ (xs : List Int) (k : Nat) (h : k < xs.length) : loTo xs (k + 1) = (loTo xs k).set k (lo (xs.getD k 0)) := by
  have hl : ((xs.take k).map lo).length = k := by simp; omega
  have e2 : xs.drop k = xs[k] :: xs.drop (k + 1) := List.drop_eq_getElem_cons h
  have e3 : xs.getD k 0 = xs[k] := by rw [List.getD_eq_getElem?_getD, List.getElem?_eq_getElem h]; rfl
  unfold loTo
  rw [List.set_append_right _ _ (by omega), hl, Nat.sub_self, e2, List.set_cons_zero, e3, List.take_succ_eq_append_getElem h, List.map_append, List.append_assoc]
  rfl
theorem loTo_keep (xs : List Int) (k : Nat) (h : k < xs.length) (hx : lo (xs.getD k 0) = xs.getD k 0) : loTo xs (k + 1) = loTo xs k := by
  have hl : k < (loTo xs k).length := by rw [loTo_length]; exact h
  have e : (loTo xs k)[k] = xs.getD k 0 := by
    have := loTo_at xs k h
    rw [List.getD_eq_getElem?_getD, List.getElem?_eq_getElem hl] at this
    exact this
  rw [loTo_succ xs k h, hx, ← e, List.set_getElem_self]
set_option maxHeartbeats 1000000 in
theorem low_calls (a0 : ByteArray) (w : World) (hbd : a0.size ≤ 4611686018427387904) :
    Calls Try.prog 15 #[.string a0] w fun e w' => e = .returned (.string (strOfNums ((ns a0).map lo))) ∧ Below w.heap.size w w' := by
  have hcv := Lib.run_convert_string_bytes (P := Try.prog) w 9 54 5 a0 Try.underlying9 Try.underlying54 Try.underlying5
  have hbr := Br.conv w 5 a0
  have hbl := conv_below w 5 a0
  have hsz := Lib.bytesWorld_size w 5 a0
  obtain ⟨c, hc⟩ : ∃ c, grownCap w a0.size 0 5 = c := ⟨_, rfl⟩
  rw [hc] at hcv
  clear hc
  obtain ⟨W, hW⟩ : ∃ W, Lib.bytesWorld w 5 a0 = W := ⟨_, rfl⟩
  rw [hW] at hcv hbr hbl hsz
  clear hW
  have HB := Lib.hid hbr
  have HL := Lib.hid hbl
  have HS := Lib.hid hsz
  clear hbr hbl hsz
  go_enter Try.func15, Try.ntmps15
  go_wp2
  go_loopw [9] (fun i wr => ∃ k : Nat, k ≤ a0.size ∧ i = .int .i64 k ∧ Hid (Br wr 5 w.heap.size (loTo (ns a0) k)) ∧ Hid (Below w.heap.size w wr)) (fun i _ => a0.size - (intOf i).toNat)
  case atStart => exact ⟨0, Nat.zero_le _, rfl, Lib.hid (by rw [loTo_zero]; exact HB.out), HL⟩
  case round =>
    obtain ⟨k, hk, rfl, HBr, HBl⟩ := hrel
    by_cases hlt : k < a0.size
    · have hlen : k < (loTo (ns a0) k).length := by rw [loTo_length, ns_length]; exact hlt
      have hcell := HBr.out.cell k hlen
      have hfree := HBr.out.free k hlen
      have hset := Lib.hid (fun v => HBr.out.set k v)
      rw [loTo_at _ _ (by rw [ns_length]; exact hlt)] at hcell
      have hrg := ns_range a0 ((ns a0).getD k 0) (by
        have hlt' : k < (ns a0).length := by rw [ns_length]; exact hlt
        rw [List.getD_eq_getElem?_getD, List.getElem?_eq_getElem hlt']; exact List.getElem_mem hlt')
      have hsucc := Lib.hid (loTo_succ (ns a0) k (by rw [ns_length]; exact hlt))
      obtain ⟨x, hx⟩ : ∃ x, (ns a0).getD k 0 = x := ⟨_, rfl⟩
      have hkeep := Lib.hid (loTo_keep (ns a0) k (by rw [ns_length]; exact hlt))
      have hkeep' : Hid (lo x = x → loTo (ns a0) (k + 1) = loTo (ns a0) k) := Lib.hid (by rw [← hx]; exact hkeep.out)
      have hsucc' : Hid (loTo (ns a0) (k + 1) = (loTo (ns a0) k).set k (lo x)) := Lib.hid (by rw [hsucc.out, hx])
      rw [hx] at hcell hrg
      clear hsucc hkeep hx
      by_cases c1 : 65 ≤ x
      · by_cases c2 : x ≤ 90
        · have hv : Hid (lo x = x + 32) := Lib.hid (if_pos ⟨c1, c2⟩)
          go_wp2
          go_roundw
          case rel => exact ⟨k + 1, by omega, by go_num, Lib.hid (by rw [hsucc'.out, hv.out]; exact hset.out _), Lib.hid (HBl.out.setCell (Nat.le_refl _) _)⟩
          case measure => simp [intOf]; omega
        · have hv : Hid (lo x = x) := Lib.hid (if_neg (by omega))
          go_wp2
          go_roundw
          case rel => exact ⟨k + 1, by omega, by go_num, Lib.hid (by rw [hkeep'.out hv.out]; exact HBr.out), HBl⟩
          case measure => simp [intOf]; omega
      · have hv : Hid (lo x = x) := Lib.hid (if_neg (by omega))
        go_wp2
        go_roundw
        case rel => exact ⟨k + 1, by omega, by go_num, Lib.hid (by rw [hkeep'.out hv.out]; exact HBr.out), HBl⟩
        case measure => simp [intOf]; omega
    · have hkk : k = a0.size := by omega
      have htx := HBr.out.text (P := Try.prog) (src := 54) (dst := 9) Try.underlying54 Try.underlying5 Try.underlying9 c
      rw [loTo_length, ns_length] at htx
      have hall : Hid (loTo (ns a0) k = (ns a0).map lo) := Lib.hid (by rw [hkk, ← ns_length, loTo_all])
      clear hkk
      go_wp2
      go_ret
      exact ⟨by rw [hall.out]; rfl, HBl.out⟩
theorem laws_low.calls (a0 : ByteArray) (r : ByteArray) (w : World) (h : laws_low.f a0 = some r) :
    Calls Try.prog 15 #[.string a0] w fun e w' => e = .returned (.string r) ∧ Below w.heap.size w w' := by
  unfold laws_low.f at h
  by_cases hbd : a0.size ≤ 4611686018427387904
  · rw [if_pos hbd] at h
    obtain rfl : strOfNums ((ns a0).map lo) = r := Option.some.inj h
    exact low_calls a0 w hbd
  · rw [if_neg hbd] at h
    cases h
end Go.Proofs.Ytoimkmoalmmooaa.Given
namespace Go.Proofs.Ytoimkmoalmmooaa.QA
open Go.Proofs.Ytoimkmoalmmooaa.Given
open Go.Proofs.Ytoimkmoalmmooaa.PrX
open Go.RowKit Go.Proofs.YtoimkmoalmmooaaW.PrintWords Go.Proofs.YtoimkmoalmmooaaW.PrintLast Go.Proofs.YtoimkmoalmmooaaW.PrintMore
set_option linter.unusedVariables false
set_option linter.unusedSimpArgs false
def laws_forbidden.f (a0 : ByteArray) : Option (Bool) := (laws_low.f a0).bind fun t267 => (if t267.toList = ([99, 111, 110, 116, 101, 110, 116, 45, 108, 101, 110, 103, 116, 104] : List UInt8) then (some true) else (if t267.toList = ([116, 114, 97, 110, 115, 102, 101, 114, 45, 101, 110, 99, 111, 100, 105, 110, 103] : List UInt8) then (some true) else (if t267.toList = ([104, 111, 115, 116] : List UInt8) then (some true) else (if t267.toList = ([116, 114, 97, 105, 108, 101, 114] : List UInt8) then (some true) else (if t267.toList = ([99, 111, 110, 116, 101, 110, 116, 45, 116, 121, 112, 101] : List UInt8) then (some true) else (if t267.toList = ([99, 111, 110, 116, 101, 110, 116, 45, 101, 110, 99, 111, 100, 105, 110, 103] : List UInt8) then (some true) else (if t267.toList = ([99, 111, 110, 116, 101, 110, 116, 45, 114, 97, 110, 103, 101] : List UInt8) then (some true) else (if t267.toList = ([97, 117, 116, 104, 111, 114, 105, 122, 97, 116, 105, 111, 110] : List UInt8) then (some true) else (some false)))))))))
set_option maxHeartbeats 8000000 in
set_option maxRecDepth 100000 in
theorem laws_forbidden.calls (a0 : ByteArray) (r : Bool) (w : World) (h : laws_forbidden.f a0 = some r) :
    Calls Try.prog 11 #[.string a0] w fun e w' => e = .returned (.bool r) ∧ Below w.heap.size w w' := by
  have HB := Aside0.mk (Below.refl w.heap.size w)
  have H : ((laws_low.f a0).bind fun t267 => (if t267.toList = ([99, 111, 110, 116, 101, 110, 116, 45, 108, 101, 110, 103, 116, 104] : List UInt8) then (some true) else (if t267.toList = ([116, 114, 97, 110, 115, 102, 101, 114, 45, 101, 110, 99, 111, 100, 105, 110, 103] : List UInt8) then (some true) else (if t267.toList = ([104, 111, 115, 116] : List UInt8) then (some true) else (if t267.toList = ([116, 114, 97, 105, 108, 101, 114] : List UInt8) then (some true) else (if t267.toList = ([99, 111, 110, 116, 101, 110, 116, 45, 116, 121, 112, 101] : List UInt8) then (some true) else (if t267.toList = ([99, 111, 110, 116, 101, 110, 116, 45, 101, 110, 99, 111, 100, 105, 110, 103] : List UInt8) then (some true) else (if t267.toList = ([99, 111, 110, 116, 101, 110, 116, 45, 114, 97, 110, 103, 101] : List UInt8) then (some true) else (if t267.toList = ([97, 117, 116, 104, 111, 114, 105, 122, 97, 116, 105, 111, 110] : List UInt8) then (some true) else (some false)))))))))) = some r := h
  clear h
  replace H := Option.bind_eq_some_iff.mp H
  obtain ⟨t267, A20, H⟩ := H
  replace H : (if t267.toList = ([99, 111, 110, 116, 101, 110, 116, 45, 108, 101, 110, 103, 116, 104] : List UInt8) then (some true) else (if t267.toList = ([116, 114, 97, 110, 115, 102, 101, 114, 45, 101, 110, 99, 111, 100, 105, 110, 103] : List UInt8) then (some true) else (if t267.toList = ([104, 111, 115, 116] : List UInt8) then (some true) else (if t267.toList = ([116, 114, 97, 105, 108, 101, 114] : List UInt8) then (some true) else (if t267.toList = ([99, 111, 110, 116, 101, 110, 116, 45, 116, 121, 112, 101] : List UInt8) then (some true) else (if t267.toList = ([99, 111, 110, 116, 101, 110, 116, 45, 101, 110, 99, 111, 100, 105, 110, 103] : List UInt8) then (some true) else (if t267.toList = ([99, 111, 110, 116, 101, 110, 116, 45, 114, 97, 110, 103, 101] : List UInt8) then (some true) else (if t267.toList = ([97, 117, 116, 104, 111, 114, 105, 122, 97, 116, 105, 111, 110] : List UInt8) then (some true) else (some false))))))))) = some r := H
  have A2 := Aside0.mk A20
  clear A20
  by_cases c3 : t267.toList = ([99, 111, 110, 116, 101, 110, 116, 45, 108, 101, 110, 103, 116, 104] : List UInt8)
  · rw [if_pos c3] at H
    have c3b0 : (t267.toList == ([99, 111, 110, 116, 101, 110, 116, 45, 108, 101, 110, 103, 116, 104] : List UInt8)) = true := beq_iff_eq.mpr c3
    have c3b1 : (t267.toList != ([99, 111, 110, 116, 101, 110, 116, 45, 108, 101, 110, 103, 116, 104] : List UInt8)) = false := bne_eq_false_iff_eq.mpr c3
    clear c3
    obtain rfl := Option.some.inj H
    go_enter Try.func11, Try.ntmps11
    go_wp2_with (first | ((with_reducible refine gate_callee (f := 15) rfl ?_); refine goesL_ (some 4) rfl rfl Try.func15 (by kernel_rfl) rfl #[.string a0] rfl (by (try simp only [List.map_toArray, List.map_cons, List.map_nil]); first | done | rfl | (simp only [List.length_drop, List.length_take]; rfl)) ?_; (with_reducible refine (laws_low.calls a0 t267 _ A2.out).mono ?_); rintro e w4 ⟨rfl, hb⟩; refine ⟨_, rfl, ?_⟩; have n0_ := Aside0.mk (below_step (by repeat (first | (with_reducible first | exact HB.out | apply below_alloc | apply pw_below_drewN | apply below_drew1) | exact HB.out)) hb); clear HB; have HB := n0_; clear n0_; (try clear hb); (try clear hb2); (try clear hk); (try clear hi)))
    go_ret
    exact ⟨by first | rfl | (simp [errW_none, errW_some] <;> rfl) | (simp [*, errW_none, errW_some] <;> rfl), by repeat (first | (with_reducible first | exact HB.out | apply below_alloc | apply pw_below_drewN | apply below_drew1) | exact HB.out)⟩
  · rw [if_neg c3] at H
    have c3b0 : (t267.toList == ([99, 111, 110, 116, 101, 110, 116, 45, 108, 101, 110, 103, 116, 104] : List UInt8)) = false := beq_eq_false_iff_ne.mpr c3
    have c3b1 : (t267.toList != ([99, 111, 110, 116, 101, 110, 116, 45, 108, 101, 110, 103, 116, 104] : List UInt8)) = true := bne_iff_ne.mpr c3
    by_cases c5 : t267.toList = ([116, 114, 97, 110, 115, 102, 101, 114, 45, 101, 110, 99, 111, 100, 105, 110, 103] : List UInt8)
    · rw [if_pos c5] at H
      have c5b0 : (t267.toList == ([116, 114, 97, 110, 115, 102, 101, 114, 45, 101, 110, 99, 111, 100, 105, 110, 103] : List UInt8)) = true := beq_iff_eq.mpr c5
      have c5b1 : (t267.toList != ([116, 114, 97, 110, 115, 102, 101, 114, 45, 101, 110, 99, 111, 100, 105, 110, 103] : List UInt8)) = false := bne_eq_false_iff_eq.mpr c5
      clear c5
      obtain rfl := Option.some.inj H
      go_enter Try.func11, Try.ntmps11
      go_wp2_with (first | ((with_reducible refine gate_callee (f := 15) rfl ?_); refine goesL_ (some 4) rfl rfl Try.func15 (by kernel_rfl) rfl #[.string a0] rfl (by (try simp only [List.map_toArray, List.map_cons, List.map_nil]); first | done | rfl | (simp only [List.length_drop, List.length_take]; rfl)) ?_; (with_reducible refine (laws_low.calls a0 t267 _ A2.out).mono ?_); rintro e w6 ⟨rfl, hb⟩; refine ⟨_, rfl, ?_⟩; have n0_ := Aside0.mk (below_step (by repeat (first | (with_reducible first | exact HB.out | apply below_alloc | apply pw_below_drewN | apply below_drew1) | exact HB.out)) hb); clear HB; have HB := n0_; clear n0_; (try clear hb); (try clear hb2); (try clear hk); (try clear hi)))
      go_ret
      exact ⟨by first | rfl | (simp [errW_none, errW_some] <;> rfl) | (simp [*, errW_none, errW_some] <;> rfl), by repeat (first | (with_reducible first | exact HB.out | apply below_alloc | apply pw_below_drewN | apply below_drew1) | exact HB.out)⟩
    · rw [if_neg c5] at H
      have c5b0 : (t267.toList == ([116, 114, 97, 110, 115, 102, 101, 114, 45, 101, 110, 99, 111, 100, 105, 110, 103] : List UInt8)) = false := beq_eq_false_iff_ne.mpr c5
      have c5b1 : (t267.toList != ([116, 114, 97, 110, 115, 102, 101, 114, 45, 101, 110, 99, 111, 100, 105, 110, 103] : List UInt8)) = true := bne_iff_ne.mpr c5
      by_cases c7 : t267.toList = ([104, 111, 115, 116] : List UInt8)
      · rw [if_pos c7] at H
        have c7b0 : (t267.toList == ([104, 111, 115, 116] : List UInt8)) = true := beq_iff_eq.mpr c7
        have c7b1 : (t267.toList != ([104, 111, 115, 116] : List UInt8)) = false := bne_eq_false_iff_eq.mpr c7
        clear c7
        obtain rfl := Option.some.inj H
        go_enter Try.func11, Try.ntmps11
        go_wp2_with (first | ((with_reducible refine gate_callee (f := 15) rfl ?_); refine goesL_ (some 4) rfl rfl Try.func15 (by kernel_rfl) rfl #[.string a0] rfl (by (try simp only [List.map_toArray, List.map_cons, List.map_nil]); first | done | rfl | (simp only [List.length_drop, List.length_take]; rfl)) ?_; (with_reducible refine (laws_low.calls a0 t267 _ A2.out).mono ?_); rintro e w8 ⟨rfl, hb⟩; refine ⟨_, rfl, ?_⟩; have n0_ := Aside0.mk (below_step (by repeat (first | (with_reducible first | exact HB.out | apply below_alloc | apply pw_below_drewN | apply below_drew1) | exact HB.out)) hb); clear HB; have HB := n0_; clear n0_; (try clear hb); (try clear hb2); (try clear hk); (try clear hi)))
        go_ret
        exact ⟨by first | rfl | (simp [errW_none, errW_some] <;> rfl) | (simp [*, errW_none, errW_some] <;> rfl), by repeat (first | (with_reducible first | exact HB.out | apply below_alloc | apply pw_below_drewN | apply below_drew1) | exact HB.out)⟩
      · rw [if_neg c7] at H
        have c7b0 : (t267.toList == ([104, 111, 115, 116] : List UInt8)) = false := beq_eq_false_iff_ne.mpr c7
        have c7b1 : (t267.toList != ([104, 111, 115, 116] : List UInt8)) = true := bne_iff_ne.mpr c7
        by_cases c9 : t267.toList = ([116, 114, 97, 105, 108, 101, 114] : List UInt8)
        · rw [if_pos c9] at H
          have c9b0 : (t267.toList == ([116, 114, 97, 105, 108, 101, 114] : List UInt8)) = true := beq_iff_eq.mpr c9
          have c9b1 : (t267.toList != ([116, 114, 97, 105, 108, 101, 114] : List UInt8)) = false := bne_eq_false_iff_eq.mpr c9
          clear c9
          obtain rfl := Option.some.inj H
          go_enter Try.func11, Try.ntmps11
          go_wp2_with (first | ((with_reducible refine gate_callee (f := 15) rfl ?_); refine goesL_ (some 4) rfl rfl Try.func15 (by kernel_rfl) rfl #[.string a0] rfl (by (try simp only [List.map_toArray, List.map_cons, List.map_nil]); first | done | rfl | (simp only [List.length_drop, List.length_take]; rfl)) ?_; (with_reducible refine (laws_low.calls a0 t267 _ A2.out).mono ?_); rintro e w10 ⟨rfl, hb⟩; refine ⟨_, rfl, ?_⟩; have n0_ := Aside0.mk (below_step (by repeat (first | (with_reducible first | exact HB.out | apply below_alloc | apply pw_below_drewN | apply below_drew1) | exact HB.out)) hb); clear HB; have HB := n0_; clear n0_; (try clear hb); (try clear hb2); (try clear hk); (try clear hi)))
          go_ret
          exact ⟨by first | rfl | (simp [errW_none, errW_some] <;> rfl) | (simp [*, errW_none, errW_some] <;> rfl), by repeat (first | (with_reducible first | exact HB.out | apply below_alloc | apply pw_below_drewN | apply below_drew1) | exact HB.out)⟩
        · rw [if_neg c9] at H
          have c9b0 : (t267.toList == ([116, 114, 97, 105, 108, 101, 114] : List UInt8)) = false := beq_eq_false_iff_ne.mpr c9
          have c9b1 : (t267.toList != ([116, 114, 97, 105, 108, 101, 114] : List UInt8)) = true := bne_iff_ne.mpr c9
          by_cases c11 : t267.toList = ([99, 111, 110, 116, 101, 110, 116, 45, 116, 121, 112, 101] : List UInt8)
          · rw [if_pos c11] at H
            have c11b0 : (t267.toList == ([99, 111, 110, 116, 101, 110, 116, 45, 116, 121, 112, 101] : List UInt8)) = true := beq_iff_eq.mpr c11
            have c11b1 : (t267.toList != ([99, 111, 110, 116, 101, 110, 116, 45, 116, 121, 112, 101] : List UInt8)) = false := bne_eq_false_iff_eq.mpr c11
            clear c11
            obtain rfl := Option.some.inj H
            go_enter Try.func11, Try.ntmps11
            go_wp2_with (first | ((with_reducible refine gate_callee (f := 15) rfl ?_); refine goesL_ (some 4) rfl rfl Try.func15 (by kernel_rfl) rfl #[.string a0] rfl (by (try simp only [List.map_toArray, List.map_cons, List.map_nil]); first | done | rfl | (simp only [List.length_drop, List.length_take]; rfl)) ?_; (with_reducible refine (laws_low.calls a0 t267 _ A2.out).mono ?_); rintro e w12 ⟨rfl, hb⟩; refine ⟨_, rfl, ?_⟩; have n0_ := Aside0.mk (below_step (by repeat (first | (with_reducible first | exact HB.out | apply below_alloc | apply pw_below_drewN | apply below_drew1) | exact HB.out)) hb); clear HB; have HB := n0_; clear n0_; (try clear hb); (try clear hb2); (try clear hk); (try clear hi)))
            go_ret
            exact ⟨by first | rfl | (simp [errW_none, errW_some] <;> rfl) | (simp [*, errW_none, errW_some] <;> rfl), by repeat (first | (with_reducible first | exact HB.out | apply below_alloc | apply pw_below_drewN | apply below_drew1) | exact HB.out)⟩
          · rw [if_neg c11] at H
            have c11b0 : (t267.toList == ([99, 111, 110, 116, 101, 110, 116, 45, 116, 121, 112, 101] : List UInt8)) = false := beq_eq_false_iff_ne.mpr c11
            have c11b1 : (t267.toList != ([99, 111, 110, 116, 101, 110, 116, 45, 116, 121, 112, 101] : List UInt8)) = true := bne_iff_ne.mpr c11
            by_cases c13 : t267.toList = ([99, 111, 110, 116, 101, 110, 116, 45, 101, 110, 99, 111, 100, 105, 110, 103] : List UInt8)
            · rw [if_pos c13] at H
              have c13b0 : (t267.toList == ([99, 111, 110, 116, 101, 110, 116, 45, 101, 110, 99, 111, 100, 105, 110, 103] : List UInt8)) = true := beq_iff_eq.mpr c13
              have c13b1 : (t267.toList != ([99, 111, 110, 116, 101, 110, 116, 45, 101, 110, 99, 111, 100, 105, 110, 103] : List UInt8)) = false := bne_eq_false_iff_eq.mpr c13
              clear c13
              obtain rfl := Option.some.inj H
              go_enter Try.func11, Try.ntmps11
              go_wp2_with (first | ((with_reducible refine gate_callee (f := 15) rfl ?_); refine goesL_ (some 4) rfl rfl Try.func15 (by kernel_rfl) rfl #[.string a0] rfl (by (try simp only [List.map_toArray, List.map_cons, List.map_nil]); first | done | rfl | (simp only [List.length_drop, List.length_take]; rfl)) ?_; (with_reducible refine (laws_low.calls a0 t267 _ A2.out).mono ?_); rintro e w14 ⟨rfl, hb⟩; refine ⟨_, rfl, ?_⟩; have n0_ := Aside0.mk (below_step (by repeat (first | (with_reducible first | exact HB.out | apply below_alloc | apply pw_below_drewN | apply below_drew1) | exact HB.out)) hb); clear HB; have HB := n0_; clear n0_; (try clear hb); (try clear hb2); (try clear hk); (try clear hi)))
              go_ret
              exact ⟨by first | rfl | (simp [errW_none, errW_some] <;> rfl) | (simp [*, errW_none, errW_some] <;> rfl), by repeat (first | (with_reducible first | exact HB.out | apply below_alloc | apply pw_below_drewN | apply below_drew1) | exact HB.out)⟩
            · rw [if_neg c13] at H
              have c13b0 : (t267.toList == ([99, 111, 110, 116, 101, 110, 116, 45, 101, 110, 99, 111, 100, 105, 110, 103] : List UInt8)) = false := beq_eq_false_iff_ne.mpr c13
              have c13b1 : (t267.toList != ([99, 111, 110, 116, 101, 110, 116, 45, 101, 110, 99, 111, 100, 105, 110, 103] : List UInt8)) = true := bne_iff_ne.mpr c13
              by_cases c15 : t267.toList = ([99, 111, 110, 116, 101, 110, 116, 45, 114, 97, 110, 103, 101] : List UInt8)
              · rw [if_pos c15] at H
                have c15b0 : (t267.toList == ([99, 111, 110, 116, 101, 110, 116, 45, 114, 97, 110, 103, 101] : List UInt8)) = true := beq_iff_eq.mpr c15
                have c15b1 : (t267.toList != ([99, 111, 110, 116, 101, 110, 116, 45, 114, 97, 110, 103, 101] : List UInt8)) = false := bne_eq_false_iff_eq.mpr c15
                clear c15
                obtain rfl := Option.some.inj H
                go_enter Try.func11, Try.ntmps11
                go_wp2_with (first | ((with_reducible refine gate_callee (f := 15) rfl ?_); refine goesL_ (some 4) rfl rfl Try.func15 (by kernel_rfl) rfl #[.string a0] rfl (by (try simp only [List.map_toArray, List.map_cons, List.map_nil]); first | done | rfl | (simp only [List.length_drop, List.length_take]; rfl)) ?_; (with_reducible refine (laws_low.calls a0 t267 _ A2.out).mono ?_); rintro e w16 ⟨rfl, hb⟩; refine ⟨_, rfl, ?_⟩; have n0_ := Aside0.mk (below_step (by repeat (first | (with_reducible first | exact HB.out | apply below_alloc | apply pw_below_drewN | apply below_drew1) | exact HB.out)) hb); clear HB; have HB := n0_; clear n0_; (try clear hb); (try clear hb2); (try clear hk); (try clear hi)))
                go_ret
                exact ⟨by first | rfl | (simp [errW_none, errW_some] <;> rfl) | (simp [*, errW_none, errW_some] <;> rfl), by repeat (first | (with_reducible first | exact HB.out | apply below_alloc | apply pw_below_drewN | apply below_drew1) | exact HB.out)⟩
              · rw [if_neg c15] at H
                have c15b0 : (t267.toList == ([99, 111, 110, 116, 101, 110, 116, 45, 114, 97, 110, 103, 101] : List UInt8)) = false := beq_eq_false_iff_ne.mpr c15
                have c15b1 : (t267.toList != ([99, 111, 110, 116, 101, 110, 116, 45, 114, 97, 110, 103, 101] : List UInt8)) = true := bne_iff_ne.mpr c15
                by_cases c17 : t267.toList = ([97, 117, 116, 104, 111, 114, 105, 122, 97, 116, 105, 111, 110] : List UInt8)
                · rw [if_pos c17] at H
                  have c17b0 : (t267.toList == ([97, 117, 116, 104, 111, 114, 105, 122, 97, 116, 105, 111, 110] : List UInt8)) = true := beq_iff_eq.mpr c17
                  have c17b1 : (t267.toList != ([97, 117, 116, 104, 111, 114, 105, 122, 97, 116, 105, 111, 110] : List UInt8)) = false := bne_eq_false_iff_eq.mpr c17
                  clear c17
                  obtain rfl := Option.some.inj H
                  go_enter Try.func11, Try.ntmps11
                  go_wp2_with (first | ((with_reducible refine gate_callee (f := 15) rfl ?_); refine goesL_ (some 4) rfl rfl Try.func15 (by kernel_rfl) rfl #[.string a0] rfl (by (try simp only [List.map_toArray, List.map_cons, List.map_nil]); first | done | rfl | (simp only [List.length_drop, List.length_take]; rfl)) ?_; (with_reducible refine (laws_low.calls a0 t267 _ A2.out).mono ?_); rintro e w18 ⟨rfl, hb⟩; refine ⟨_, rfl, ?_⟩; have n0_ := Aside0.mk (below_step (by repeat (first | (with_reducible first | exact HB.out | apply below_alloc | apply pw_below_drewN | apply below_drew1) | exact HB.out)) hb); clear HB; have HB := n0_; clear n0_; (try clear hb); (try clear hb2); (try clear hk); (try clear hi)))
                  go_ret
                  exact ⟨by first | rfl | (simp [errW_none, errW_some] <;> rfl) | (simp [*, errW_none, errW_some] <;> rfl), by repeat (first | (with_reducible first | exact HB.out | apply below_alloc | apply pw_below_drewN | apply below_drew1) | exact HB.out)⟩
                · rw [if_neg c17] at H
                  have c17b0 : (t267.toList == ([97, 117, 116, 104, 111, 114, 105, 122, 97, 116, 105, 111, 110] : List UInt8)) = false := beq_eq_false_iff_ne.mpr c17
                  have c17b1 : (t267.toList != ([97, 117, 116, 104, 111, 114, 105, 122, 97, 116, 105, 111, 110] : List UInt8)) = true := bne_iff_ne.mpr c17
                  obtain rfl := Option.some.inj H
                  go_enter Try.func11, Try.ntmps11
                  go_wp2_with (first | ((with_reducible refine gate_callee (f := 15) rfl ?_); refine goesL_ (some 4) rfl rfl Try.func15 (by kernel_rfl) rfl #[.string a0] rfl (by (try simp only [List.map_toArray, List.map_cons, List.map_nil]); first | done | rfl | (simp only [List.length_drop, List.length_take]; rfl)) ?_; (with_reducible refine (laws_low.calls a0 t267 _ A2.out).mono ?_); rintro e w19 ⟨rfl, hb⟩; refine ⟨_, rfl, ?_⟩; have n0_ := Aside0.mk (below_step (by repeat (first | (with_reducible first | exact HB.out | apply below_alloc | apply pw_below_drewN | apply below_drew1) | exact HB.out)) hb); clear HB; have HB := n0_; clear n0_; (try clear hb); (try clear hb2); (try clear hk); (try clear hi)))
                  go_ret
                  exact ⟨by first | rfl | (simp [errW_none, errW_some] <;> rfl) | (simp [*, errW_none, errW_some] <;> rfl), by repeat (first | (with_reducible first | exact HB.out | apply below_alloc | apply pw_below_drewN | apply below_drew1) | exact HB.out)⟩
end Go.Proofs.Ytoimkmoalmmooaa.QA
namespace Go.Proofs.Ytoimkmoalmmooaa.QA
open Go.Proofs.Ytoimkmoalmmooaa.Given
open Go.Proofs.Ytoimkmoalmmooaa.PrX
open Go.RowKit Go.Proofs.YtoimkmoalmmooaaW.PrintWords Go.Proofs.YtoimkmoalmmooaaW.PrintLast Go.Proofs.YtoimkmoalmmooaaW.PrintMore
set_option linter.unusedVariables false
set_option linter.unusedSimpArgs false
def laws_joined.l0 : Nat → ByteArray → ByteArray → List ByteArray → Int → Int → Option (ByteArray)
  | 0, _, _, _, _, _ => none
  | k + 1, x1, x5, x8, x9, x10 => if x10 < x9 then (if 0 ≤ x10 then (if x10 < (x8.length : Int) then (if x10 > 0 then (if x5.size + x1.size ≤ 9223372036854775807 then (if (x5 ++ x1).size + (rdOf ByteArray.empty x8 x10).size ≤ 9223372036854775807 then (laws_joined.l0 k x1 ((x5 ++ x1) ++ (rdOf ByteArray.empty x8 x10)) x8 x9 (wrap64 (x10 + 1))) else (none)) else (none)) else (if x5.size + (rdOf ByteArray.empty x8 x10).size ≤ 9223372036854775807 then (laws_joined.l0 k x1 (x5 ++ (rdOf ByteArray.empty x8 x10)) x8 x9 (wrap64 (x10 + 1))) else (none))) else (none)) else (none)) else (some x5)
def laws_joined.f (k : Nat) (l0 : List ByteArray) (a1 : ByteArray) : Option (ByteArray) := laws_joined.l0 k a1 (⟨#[]⟩ : ByteArray) l0 (l0.length : Int) 0
set_option maxHeartbeats 8000000 in
set_option maxRecDepth 100000 in
theorem laws_joined.calls (k : Nat) (A0 : Option Addr) (c0 : Nat) (l0 : List ByteArray) (a1 : ByteArray) (r : ByteArray) (w : World) (hr0 : Kd.C Kd.string w A0 l0.length l0) (hc0 : l0.length ≤ c0) (h : laws_joined.f k l0 a1 = some r) :
    Calls Try.prog 13 #[.slice A0 l0.length c0, .string a1] w fun e w' => e = .returned (.string r) ∧ Drawn0 w w' := by
  have HR0 := Aside0.mk hr0
  have HC0 := Aside0.mk hc0
  clear hr0 hc0
  have H : (laws_joined.l0 k a1 (⟨#[]⟩ : ByteArray) l0 (l0.length : Int) 0) = some r := h
  clear h
  have H' := Aside0.mk H
  clear H
  go_enter Try.func13, Try.ntmps13
  go_wp2
  go_loopg [5, 10] k (fun kq v5 v10 w' => ∃ (x5_1 : ByteArray) (x10_1 : Int), v5 = .string x5_1 ∧ v10 = .int .i64 x10_1 ∧ Aside0 (laws_joined.l0 kq a1 x5_1 l0 (l0.length : Int) x10_1 = some r) ∧ Aside0 (kq ≤ k) ∧ Drawn0 w w')
  case atStart => exact ⟨((⟨#[]⟩ : ByteArray)), (0), (by first | rfl | (simp; done) | (rw [prx_ne]; first | done | rfl) | (simp [*]; done)), (by first | rfl | (simp; done) | (rw [prx_ne]; first | done | rfl) | (simp [*]; done)), H', ⟨Nat.le_refl _⟩, by repeat (first | exact Drawn0.refl _ | apply Drawn0.step)⟩
  case round =>
    clear H'
    try clear c1
    try clear p2
    obtain ⟨x5_1, x10_1, rfl, rfl, HA, HK1, ⟨m1, rfl⟩⟩ := hrel
    cases gk with
    | zero => exact absurd HA.out (by simp [laws_joined.l0])
    | succ k1 =>
      have H := HA.out
      clear HA
      simp only [laws_joined.l0] at H
      by_cases c3 : x10_1 < (l0.length : Int)
      · rw [if_pos c3] at H
        have c3b0 : decide (x10_1 < (l0.length : Int)) = true := decide_eq_true c3
        clear c3
        by_cases c4 : 0 ≤ x10_1
        · rw [if_pos c4] at H
          have c4b0 : decide (0 ≤ x10_1) = true := decide_eq_true c4
          clear c4
          by_cases c5 : x10_1 < (l0.length : Int)
          · rw [if_pos c5] at H
            have c5b0 : decide (x10_1 < (l0.length : Int)) = true := decide_eq_true c5
            clear c5
            by_cases c6 : x10_1 > 0
            · rw [if_pos c6] at H
              have c6b0 : decide (0 < x10_1) = true := decide_eq_true c6
              clear c6
              by_cases c7 : x5_1.size + a1.size ≤ 9223372036854775807
              · rw [if_pos c7] at H
                have c7b0 := eq_true c7
                have c7b1 : decide (x5_1.size + a1.size ≤ 9223372036854775807) = true := decide_eq_true c7
                try have c7b2 : (9223372036854775807 < x5_1.size + a1.size) = False := eq_false (Nat.not_lt.2 c7)
                try (have c7b3 := c7; simp only [ByteArray.size_append, prx_sz, List.length_cons, List.length_nil] at c7b3)
                by_cases c8 : (x5_1 ++ a1).size + (rdOf ByteArray.empty l0 x10_1).size ≤ 9223372036854775807
                · rw [if_pos c8] at H
                  have c8b0 := eq_true c8
                  have c8b1 : decide ((x5_1 ++ a1).size + (rdOf ByteArray.empty l0 x10_1).size ≤ 9223372036854775807) = true := decide_eq_true c8
                  try have c8b2 : (9223372036854775807 < (x5_1 ++ a1).size + (rdOf ByteArray.empty l0 x10_1).size) = False := eq_false (Nat.not_lt.2 c8)
                  try (have c8b3 := c8; simp only [ByteArray.size_append, prx_sz, List.length_cons, List.length_nil] at c8b3)
                  have H' := Aside0.mk H
                  clear H
                  have p268 : 0 ≤ (x10_1 : Int) := of_decide_eq_true (by first | (with_reducible assumption) | assumption)
                  have q268 : x10_1 < (l0.length : Int) := of_decide_eq_true (by first | (with_reducible assumption) | assumption)
                  obtain ⟨ad268, e268, hx268_0⟩ := Kd.at_string HR0.out x10_1 p268 q268
                  cases e268
                  replace p268 := eq_true p268
                  replace q268 := eq_true q268
                  go_wp2
                  go_roundg k1
                  case measure => have := HK1.out; omega
                  case rel => exact ⟨((x5_1 ++ a1) ++ (rdOf ByteArray.empty l0 x10_1)), (wrap64 (x10_1 + 1)), (by first | rfl | (simp; done) | (rw [prx_ne]; first | done | rfl) | (simp [*]; done)), (by first | rfl | (simp; done) | (rw [prx_ne]; first | done | rfl) | (simp [*]; done)), H', ⟨by have := HK1.out; omega⟩, by repeat (first | exact Drawn0.refl _ | apply Drawn0.step)⟩
                · rw [if_neg c8] at H
                  exact absurd H (by simp)
              · rw [if_neg c7] at H
                exact absurd H (by simp)
            · rw [if_neg c6] at H
              have c6b0 : decide (0 < x10_1) = false := decide_eq_false c6
              clear c6
              by_cases c9 : x5_1.size + (rdOf ByteArray.empty l0 x10_1).size ≤ 9223372036854775807
              · rw [if_pos c9] at H
                have c9b0 := eq_true c9
                have c9b1 : decide (x5_1.size + (rdOf ByteArray.empty l0 x10_1).size ≤ 9223372036854775807) = true := decide_eq_true c9
                try have c9b2 : (9223372036854775807 < x5_1.size + (rdOf ByteArray.empty l0 x10_1).size) = False := eq_false (Nat.not_lt.2 c9)
                try (have c9b3 := c9; simp only [ByteArray.size_append, prx_sz, List.length_cons, List.length_nil] at c9b3)
                have H' := Aside0.mk H
                clear H
                have p268 : 0 ≤ (x10_1 : Int) := of_decide_eq_true (by first | (with_reducible assumption) | assumption)
                have q268 : x10_1 < (l0.length : Int) := of_decide_eq_true (by first | (with_reducible assumption) | assumption)
                obtain ⟨ad268, e268, hx268_0⟩ := Kd.at_string HR0.out x10_1 p268 q268
                cases e268
                replace p268 := eq_true p268
                replace q268 := eq_true q268
                go_wp2
                go_roundg k1
                case measure => have := HK1.out; omega
                case rel => exact ⟨(x5_1 ++ (rdOf ByteArray.empty l0 x10_1)), (wrap64 (x10_1 + 1)), (by first | rfl | (simp; done) | (rw [prx_ne]; first | done | rfl) | (simp [*]; done)), (by first | rfl | (simp; done) | (rw [prx_ne]; first | done | rfl) | (simp [*]; done)), H', ⟨by have := HK1.out; omega⟩, by repeat (first | exact Drawn0.refl _ | apply Drawn0.step)⟩
              · rw [if_neg c9] at H
                exact absurd H (by simp)
          · rw [if_neg c5] at H
            exact absurd H (by simp)
        · rw [if_neg c4] at H
          exact absurd H (by simp)
      · rw [if_neg c3] at H
        have c3b0 : decide (x10_1 < (l0.length : Int)) = false := decide_eq_false c3
        clear c3
        obtain rfl := Option.some.inj H
        go_wp2
        go_ret
        exact ⟨by first | rfl | (simp; done) | (rw [prx_ne]; first | done | rfl) | (simp [*]; done), by repeat (first | exact Drawn0.refl _ | apply Drawn0.step)⟩
end Go.Proofs.Ytoimkmoalmmooaa.QA
namespace Go.Proofs.Ytoimkmoalmmooaa.QA
open Go.Proofs.Ytoimkmoalmmooaa.Given
open Go.Proofs.Ytoimkmoalmmooaa.PrX
open Go.RowKit Go.Proofs.YtoimkmoalmmooaaW.PrintWords Go.Proofs.YtoimkmoalmmooaaW.PrintLast Go.Proofs.YtoimkmoalmmooaaW.PrintMore
set_option linter.unusedVariables false
set_option linter.unusedSimpArgs false
theorem eqA34 (d : Nat) (w : World) (x0 y0 : ByteArray) (x1 y1 : ByteArray) :
    (Op.equalIn (d + 2) 34 (.agg #[.string x0, .string x1]) (.agg #[.string y0, .string y1])).run Try.prog w = .ok (x0.toList == y0.toList && (x1.toList == y1.toList)) w := by
  refine eqA_of Try.underlying34 (by kernel_rfl) ?_
  refine eqf_cons (by rfl) (by go_simp; rfl) (by go_simp; rfl) (by go_simp) ?_
  exact eqf_last (by rfl) (by go_simp; rfl) (by go_simp; rfl) (by go_simp)
end Go.Proofs.Ytoimkmoalmmooaa.QA
namespace Go.Proofs.Ytoimkmoalmmooaa.QA
open Go.Proofs.Ytoimkmoalmmooaa.Given
open Go.Proofs.Ytoimkmoalmmooaa.PrX
open Go.RowKit Go.Proofs.YtoimkmoalmmooaaW.PrintWords Go.Proofs.YtoimkmoalmmooaaW.PrintLast Go.Proofs.YtoimkmoalmmooaaW.PrintMore
set_option linter.unusedVariables false
set_option linter.unusedSimpArgs false
attribute [local go_sem high] eqA34
def laws_samePairs.l0 : Nat → List (S34) → List (S34) → Int → Int → Option (Bool)
  | 0, _, _, _, _ => none
  | k + 1, x0, x1, x12, x13 => if x13 < x12 then (if 0 ≤ x13 then (if x13 < (x0.length : Int) then (if x13 < (x1.length : Int) then (if (!((((rd_T34 x0 x13).f0).toList) == (((rd_T34 x1 x13).f0).toList)) || (!((((rd_T34 x0 x13).f1).toList) == (((rd_T34 x1 x13).f1).toList)))) = true then (some false) else (laws_samePairs.l0 k x0 x1 x12 (wrap64 (x13 + 1)))) else (none)) else (none)) else (none)) else (some true)
def laws_samePairs.f (k : Nat) (l0 : List (S34)) (l1 : List (S34)) : Option (Bool) := if (l0.length : Int) = (l1.length : Int) then (laws_samePairs.l0 k l0 l1 (l0.length : Int) 0) else (some false)
set_option maxHeartbeats 8000000 in
set_option maxRecDepth 100000 in
theorem laws_samePairs.calls (k : Nat) (A0 : Option Addr) (c0 : Nat) (l0 : List (S34)) (A1 : Option Addr) (c1 : Nat) (l1 : List (S34)) (r : Bool) (w : World) (hr0 : Kd.C k34 w A0 l0.length l0) (hc0 : l0.length ≤ c0) (hr1 : Kd.C k34 w A1 l1.length l1) (hc1 : l1.length ≤ c1) (h : laws_samePairs.f k l0 l1 = some r) :
    Calls Try.prog 14 #[.slice A0 l0.length c0, .slice A1 l1.length c1] w fun e w' => e = .returned (.bool r) ∧ Drawn0 w w' := by
  have hu34 := Try.underlying34
  have HR0 := Aside0.mk hr0
  have HC0 := Aside0.mk hc0
  clear hr0 hc0
  have HR1 := Aside0.mk hr1
  have HC1 := Aside0.mk hc1
  clear hr1 hc1
  have H : (if (l0.length : Int) = (l1.length : Int) then (laws_samePairs.l0 k l0 l1 (l0.length : Int) 0) else (some false)) = some r := h
  clear h
  by_cases c3 : (l0.length : Int) = (l1.length : Int)
  · rw [if_pos c3] at H
    have c3b0 : ((l0.length : Int) == (l1.length : Int)) = true := beq_iff_eq.mpr c3
    have c3b1 : ((l0.length : Int) != (l1.length : Int)) = false := bne_eq_false_iff_eq.mpr c3
    have c3b2 : (l0.length == l1.length) = true := by first | simpa using c3 | (simp at c3 ⊢; omega)
    clear c3
    have H' := Aside0.mk H
    clear H
    go_enter Try.func14, Try.ntmps14
    go_wp2
    repeat (go_quiet (fail); try go_wp2)
    go_loopg [13] k (fun kq v13 w' => ∃ (x13_1 : Int), v13 = .int .i64 x13_1 ∧ Aside0 (laws_samePairs.l0 kq l0 l1 (l0.length : Int) x13_1 = some r) ∧ Aside0 (kq ≤ k) ∧ Drawn0 w w')
    case atStart => exact ⟨(0), (by first | rfl | (simp; done) | (rw [prx_ne]; first | done | rfl) | (simp [*]; done)), H', ⟨Nat.le_refl _⟩, by repeat (first | exact Drawn0.refl _ | apply Drawn0.step)⟩
    case round =>
      clear H'
      try clear c1
      try clear p2
      try clear c3
      try clear c3b0
      try clear c3b1
      try clear c3b2
      obtain ⟨x13_1, rfl, HA, HK1, ⟨m1, rfl⟩⟩ := hrel
      cases gk with
      | zero => exact absurd HA.out (by simp [laws_samePairs.l0])
      | succ k1 =>
        have H := HA.out
        clear HA
        simp only [laws_samePairs.l0] at H
        by_cases c4 : x13_1 < (l0.length : Int)
        · rw [if_pos c4] at H
          have c4b0 : decide (x13_1 < (l0.length : Int)) = true := decide_eq_true c4
          clear c4
          by_cases c5 : 0 ≤ x13_1
          · rw [if_pos c5] at H
            have c5b0 : decide (0 ≤ x13_1) = true := decide_eq_true c5
            clear c5
            by_cases c6 : x13_1 < (l0.length : Int)
            · rw [if_pos c6] at H
              have c6b0 : decide (x13_1 < (l0.length : Int)) = true := decide_eq_true c6
              clear c6
              by_cases c7 : x13_1 < (l1.length : Int)
              · rw [if_pos c7] at H
                have c7b0 : decide (x13_1 < (l1.length : Int)) = true := decide_eq_true c7
                clear c7
                by_cases c8 : (!((((rd_T34 l0 x13_1).f0).toList) == (((rd_T34 l1 x13_1).f0).toList)) || (!((((rd_T34 l0 x13_1).f1).toList) == (((rd_T34 l1 x13_1).f1).toList)))) = true
                · rw [if_pos c8] at H
                  have c8b0 : (!((((rd_T34 l0 x13_1).f0).toList) == (((rd_T34 l1 x13_1).f0).toList)) || (!((((rd_T34 l0 x13_1).f1).toList) == (((rd_T34 l1 x13_1).f1).toList)))) = true := c8
                  clear c8
                  obtain rfl := Option.some.inj H
                  have p269 : 0 ≤ (x13_1 : Int) := of_decide_eq_true (by first | (with_reducible assumption) | assumption)
                  have q269 : x13_1 < (l0.length : Int) := of_decide_eq_true (by first | (with_reducible assumption) | assumption)
                  obtain ⟨ad269, e269, hx269_0, hx269_1⟩ := at_T34 HR0.out x13_1 p269 q269
                  cases e269
                  replace p269 := eq_true p269
                  replace q269 := eq_true q269
                  have p270 : 0 ≤ (x13_1 : Int) := of_decide_eq_true (by first | (with_reducible assumption) | assumption)
                  have q270 : x13_1 < (l1.length : Int) := of_decide_eq_true (by first | (with_reducible assumption) | assumption)
                  obtain ⟨ad270, e270, hx270_0, hx270_1⟩ := at_T34 HR1.out x13_1 p270 q270
                  cases e270
                  replace p270 := eq_true p270
                  replace q270 := eq_true q270
                  go_wp2
                  repeat (go_quiet (fail); try go_wp2)
                  go_ret
                  exact ⟨by first | rfl | (simp; done) | (rw [prx_ne]; first | done | rfl) | (simp [*]; done), by repeat (first | exact Drawn0.refl _ | apply Drawn0.step)⟩
                · rw [if_neg c8] at H
                  have c8b0 : (!((((rd_T34 l0 x13_1).f0).toList) == (((rd_T34 l1 x13_1).f0).toList)) || (!((((rd_T34 l0 x13_1).f1).toList) == (((rd_T34 l1 x13_1).f1).toList)))) = false := by simpa using c8
                  clear c8
                  have H' := Aside0.mk H
                  clear H
                  have p269 : 0 ≤ (x13_1 : Int) := of_decide_eq_true (by first | (with_reducible assumption) | assumption)
                  have q269 : x13_1 < (l0.length : Int) := of_decide_eq_true (by first | (with_reducible assumption) | assumption)
                  obtain ⟨ad269, e269, hx269_0, hx269_1⟩ := at_T34 HR0.out x13_1 p269 q269
                  cases e269
                  replace p269 := eq_true p269
                  replace q269 := eq_true q269
                  have p270 : 0 ≤ (x13_1 : Int) := of_decide_eq_true (by first | (with_reducible assumption) | assumption)
                  have q270 : x13_1 < (l1.length : Int) := of_decide_eq_true (by first | (with_reducible assumption) | assumption)
                  obtain ⟨ad270, e270, hx270_0, hx270_1⟩ := at_T34 HR1.out x13_1 p270 q270
                  cases e270
                  replace p270 := eq_true p270
                  replace q270 := eq_true q270
                  go_wp2
                  repeat (go_quiet (fail); try go_wp2)
                  go_roundg k1
                  case measure => have := HK1.out; omega
                  case rel => exact ⟨(wrap64 (x13_1 + 1)), (by first | rfl | (simp; done) | (rw [prx_ne]; first | done | rfl) | (simp [*]; done)), H', ⟨by have := HK1.out; omega⟩, by repeat (first | exact Drawn0.refl _ | apply Drawn0.step)⟩
              · rw [if_neg c7] at H
                exact absurd H (by simp)
            · rw [if_neg c6] at H
              exact absurd H (by simp)
          · rw [if_neg c5] at H
            exact absurd H (by simp)
        · rw [if_neg c4] at H
          have c4b0 : decide (x13_1 < (l0.length : Int)) = false := decide_eq_false c4
          clear c4
          obtain rfl := Option.some.inj H
          go_wp2
          repeat (go_quiet (fail); try go_wp2)
          go_ret
          exact ⟨by first | rfl | (simp; done) | (rw [prx_ne]; first | done | rfl) | (simp [*]; done), by repeat (first | exact Drawn0.refl _ | apply Drawn0.step)⟩
  · rw [if_neg c3] at H
    have c3b0 : ((l0.length : Int) == (l1.length : Int)) = false := beq_eq_false_iff_ne.mpr c3
    have c3b1 : ((l0.length : Int) != (l1.length : Int)) = true := bne_iff_ne.mpr c3
    have c3b2 : (l0.length == l1.length) = false := by first | simpa using c3 | (simp at c3 ⊢; omega)
    obtain rfl := Option.some.inj H
    go_enter Try.func14, Try.ntmps14
    go_wp2
    repeat (go_quiet (fail); try go_wp2)
    go_ret
    exact ⟨by first | rfl | (simp; done) | (rw [prx_ne]; first | done | rfl) | (simp [*]; done), by repeat (first | exact Drawn0.refl _ | apply Drawn0.step)⟩
end Go.Proofs.Ytoimkmoalmmooaa.QA
set_option linter.unusedVariables false
namespace Go.Proofs.Ytoimkmoalmmooaa.Gv
open Go.RowKit Go.Proofs.YtoimkmoalmmooaaW.PrintWords Go.Proofs.YtoimkmoalmmooaaW.PrintLast Go.Proofs.YtoimkmoalmmooaaW.PrintMore Go.Proofs.Ytoimkmoalmmooaa.Base
theorem getD_mid (out rest : List Int) (x : Int) : (out ++ x :: rest).getD out.length 0 = x := by
  rw [List.getD_eq_getElem?_getD, List.getElem?_append_right (Nat.le_refl _), Nat.sub_self]; rfl
theorem set_mid (out rest : List Int) (x v : Int) : (out ++ x :: rest).set out.length v = (out ++ [v]) ++ rest := by
  rw [List.set_append_right _ _ (Nat.le_refl _), Nat.sub_self, List.set_cons_zero, List.append_assoc]; rfl
end Go.Proofs.Ytoimkmoalmmooaa.Gv
set_option linter.unusedVariables false
namespace Go.Proofs.Ytoimkmoalmmooaa.Given
open Go.RowKit Go.Proofs.YtoimkmoalmmooaaW.PrintWords Go.Proofs.YtoimkmoalmmooaaW.PrintLast Go.Proofs.YtoimkmoalmmooaaW.PrintMore Go.Proofs.Ytoimkmoalmmooaa.Base Go.Proofs.Ytoimkmoalmmooaa.Gv
def laws_normal.f (a0 : ByteArray) : Option ByteArray := if a0.size ≤ 4611686018427387904 then some (strOfNums (nk (ns a0))) else none
theorem set_same (out rest : List Int) (x : Int) : out ++ x :: rest = (out ++ [x]) ++ rest := by simp
set_option maxHeartbeats 4000000 in
set_option maxRecDepth 100000 in
theorem normal_calls (a0 : ByteArray) (w : World) (hbd : a0.size ≤ 4611686018427387904) :
    Calls Try.prog 12 #[.string a0] w fun e w' => e = .returned (.string (strOfNums (nk (ns a0)))) ∧ Below w.heap.size w w' := by
  obtain ⟨n, hn⟩ : ∃ n, a0.size = n := ⟨_, rfl⟩
  have hlow : Hid (Calls Try.prog 15 #[.string a0] w fun e w' => e = .returned (.string (strOfNums ((ns a0).map lo))) ∧ Below w.heap.size w w') := Lib.hid (low_calls a0 w hbd)
  have hns : Hid (ns (strOfNums ((ns a0).map lo)) = (ns a0).map lo) := Lib.hid (ns_strOfNums (fun x hx => by
    obtain ⟨y, hy, rfl⟩ := List.mem_map.1 hx
    exact lo_range (ns_range a0 y hy)))
  have hsz : (strOfNums ((ns a0).map lo)).size = n := by rw [strOfNums_size, List.length_map, ns_length, hn]
  have hL : Hid (∀ x ∈ (ns a0).map lo, (0 ≤ x ∧ x ≤ 255) ∧ lo x = x) := Lib.hid (fun x hx => by
    obtain ⟨y, hy, rfl⟩ := List.mem_map.1 hx
    exact ⟨lo_range (ns_range a0 y hy), lo_lo y⟩)
  have hlen : Hid (((ns a0).map lo).length = n) := Lib.hid (by rw [List.length_map, ns_length, hn])
  have hnk : Hid (nk (ns a0) = nk ((ns a0).map lo)) := Lib.hid (nk_lo _).symm
  obtain ⟨res, hres⟩ : ∃ res, nk (ns a0) = res := ⟨_, rfl⟩
  rw [hres] at hnk
  rw [hres]
  obtain ⟨L, hLL⟩ : ∃ L, (ns a0).map lo = L := ⟨_, rfl⟩
  rw [hLL] at hnk hL hlen hns hlow hsz
  obtain ⟨S, hS⟩ : ∃ S, strOfNums L = S := ⟨_, rfl⟩
  rw [hS] at hns hlow hsz
  rw [hn] at hbd
  clear hres hLL hS hn
  have HSZ := Lib.hid hsz
  clear hsz
  go_enter Try.func12, Try.ntmps12
  go_wp2_with fail
  refine (hlow.out).mono ?_
  rintro e w1 ⟨rfl, hb1⟩
  have hcv := Lib.run_convert_string_bytes (P := Try.prog) w1 9 54 5 S Try.underlying9 Try.underlying54 Try.underlying5
  have hbr := Br.conv w1 5 S
  have hbl : Below w.heap.size w (Lib.bytesWorld w1 5 S) := below_then hb1 hb1.size (conv_below w1 5 S)
  have hge : w.heap.size ≤ w1.heap.size := hb1.size
  obtain ⟨c, hc⟩ : ∃ c, grownCap w1 S.size 0 5 = c := ⟨_, rfl⟩
  rw [hc, HSZ.out] at hcv
  clear hc
  rw [hns.out] at hbr
  obtain ⟨W, hW⟩ : ∃ W, Lib.bytesWorld w1 5 S = W := ⟨_, rfl⟩
  rw [hW] at hcv hbr hbl
  obtain ⟨g, hg⟩ : ∃ g, w1.heap.size = g := ⟨_, rfl⟩
  rw [hg] at hcv hbr hge
  have HB := Lib.hid hbr
  have HL := Lib.hid hbl
  clear hW hg hbr hbl hb1
  go_wp2
  go_loopw [4] (fun i wr => ∃ (k : Nat) (out rest : List Int), i = .int .i64 k ∧ (k = out.length ∨ (k = out.length + 1 ∧ rest = [])) ∧ Hid (out.length + rest.length = n) ∧ Hid (∀ x ∈ rest, (0 ≤ x ∧ x ≤ 255) ∧ lo x = x) ∧ Hid (res = if k = 0 then nk rest else out ++ nkTail rest) ∧ Hid (Br wr 5 g (out ++ rest)) ∧ Hid (Below w.heap.size w wr)) (fun i _ => n + 1 - (intOf i).toNat)
  case atStart => exact ⟨0, [], L, rfl, .inl rfl, Lib.hid (by rw [List.length_nil, Nat.zero_add]; exact hlen.out), hL, Lib.hid (by rw [if_pos rfl]; exact hnk.out), HB, HL⟩
  case round =>
    obtain ⟨k, out, rest, rfl, hk, Hlen, Hr, Hnk, HBr, HO⟩ := hrel
    cases rest with
    | nil =>
      have hge2 : n ≤ k := by have := Hlen.out; simp only [List.length_nil] at this; omega
      have hfin : Hid (res = out ++ []) := Lib.hid (by
        have := Hnk.out
        rcases hk with hk | ⟨hk, _⟩
        · by_cases h0 : k = 0
          · rw [if_pos h0] at this
            have ho : out = [] := List.eq_nil_of_length_eq_zero (by omega)
            rw [this, ho]; rfl
          · rw [if_neg h0] at this; exact this
        · rw [if_neg (by omega)] at this; exact this)
      have hlo : Hid ((out ++ ([] : List Int)).length = n) := Lib.hid (by rw [List.length_append]; exact Hlen.out)
      have htx := HBr.out.text (P := Try.prog) (src := 54) (dst := 9) Try.underlying54 Try.underlying5 Try.underlying9 c
      rw [hlo.out] at htx
      clear hk Hr Hnk Hlen
      go_wp2
      go_ret
      exact ⟨by rw [hfin.out, List.append_nil]; rfl, HO.out⟩
    | cons x rest =>
      have hko : k = out.length := by
        rcases hk with hk | ⟨_, hk⟩
        · exact hk
        · cases hk
      have hlt : k < n := by have := Hlen.out; simp only [List.length_cons] at this; omega
      have hin : k < (out ++ x :: rest).length := by rw [List.length_append, List.length_cons]; omega
      have hcell := HBr.out.cell k hin
      have hfree := HBr.out.free k hin
      rw [hko, getD_mid, ← hko] at hcell
      have hx := (Hr.out x (by simp)).1
      have hxl := Lib.hid (Hr.out x (by simp)).2
      have Hko := Lib.hid hko
      have hr1 : Hid (∀ z ∈ rest, (0 ≤ z ∧ z ≤ 255) ∧ lo z = z) := Lib.hid (fun z hz => Hr.out z (List.mem_cons_of_mem _ hz))
      clear hk hko hin
      by_cases h0 : k = 0
      · subst h0
        have ho : out = [] := List.eq_nil_of_length_eq_zero Hko.out.symm
        subst ho
        have hnk1 : Hid (res = [up x] ++ nkTail rest) := Lib.hid (by have := Hnk.out; rw [if_pos rfl] at this; exact this)
        have hl1 : Hid ([up x].length + rest.length = n) := Lib.hid (by have := Hlen.out; simp only [List.length_cons, List.length_nil] at this ⊢; omega)
        by_cases c1 : 97 ≤ x
        · by_cases c2 : x ≤ 122
          · have hu : up x = x - 32 := if_pos ⟨c1, c2⟩
            have hset : Hid (Br (wr.setCell ⟨g, 0, none⟩ (.int .u8 (x - 32))) 5 g ([up x] ++ rest)) := Lib.hid (by
              have h := HBr.out.set 0 (x - 32)
              rw [hu]
              exact h)
            have hO1 : Hid (Below w.heap.size w (wr.setCell ⟨g, 0, none⟩ (.int .u8 (x - 32)))) := Lib.hid (HO.out.setCell (p := ⟨g, 0, none⟩) hge _)
            clear hu
            go_wp2
            go_roundw
            case rel => exact ⟨1, [up x], rest, rfl, .inl rfl, hl1, hr1, Lib.hid (by rw [if_neg (by decide)]; exact hnk1.out), hset, hO1⟩
            case measure => simp [intOf] <;> omega
          · have hu : Hid (up x = x) := Lib.hid (if_neg (by omega))
            go_wp2
            go_roundw
            case rel => exact ⟨1, [up x], rest, rfl, .inl rfl, hl1, hr1, Lib.hid (by rw [if_neg (by decide)]; exact hnk1.out), Lib.hid (by rw [hu.out]; exact HBr.out), HO⟩
            case measure => simp [intOf] <;> omega
        · have hu : Hid (up x = x) := Lib.hid (if_neg (by omega))
          go_wp2
          go_roundw
          case rel => exact ⟨1, [up x], rest, rfl, .inl rfl, hl1, hr1, Lib.hid (by rw [if_neg (by decide)]; exact hnk1.out), Lib.hid (by rw [hu.out]; exact HBr.out), HO⟩
          case measure => simp [intOf] <;> omega
      · have hkpos : 0 < k := by omega
        have hnk1 : Hid (res = out ++ nkTail (x :: rest)) := Lib.hid (by have := Hnk.out; rw [if_neg h0] at this; exact this)
        clear h0
        by_cases h45 : x = 45
        · subst h45
          cases rest with
          | nil =>
            have hk1 : n ≤ k + 1 := by have h1 := Hlen.out; have h2 := Hko.out; simp only [List.length_cons, List.length_nil] at h1; omega
            have hend : Hid (res = (out ++ [45]) ++ nkTail []) := Lib.hid (by rw [hnk1.out, nkTail_hyp1]; simp only [nkTail, List.append_nil])
            have hl1 : Hid ((out ++ [(45 : Int)]).length + ([] : List Int).length = n) := Lib.hid (by have := Hlen.out; simp only [List.length_append, List.length_cons, List.length_nil] at this ⊢; omega)
            clear hfree hx
            go_wp2
            go_roundw
            case rel => exact ⟨k + 1 + 1, out ++ [45], [], by go_num, .inr ⟨by rw [List.length_append, ← Hko.out]; rfl, rfl⟩, hl1, Lib.hid (by simp), Lib.hid (by rw [if_neg (by omega)]; exact hend.out), Lib.hid (by rw [List.append_nil]; exact HBr.out), HO⟩
            case measure => simp [intOf]; omega
          | cons y rest =>
            have hk1 : k + 1 < n := by have h1 := Hlen.out; have h2 := Hko.out; simp only [List.length_cons] at h1; omega
            have hy := (hr1.out y (by simp)).1
            have e1 : out ++ 45 :: y :: rest = (out ++ [45]) ++ y :: rest := by simp
            have hol : (out ++ [(45 : Int)]).length = k + 1 := by rw [List.length_append, ← Hko.out]; rfl
            have HB1 : Br wr 5 g ((out ++ [45]) ++ y :: rest) := by rw [← e1]; exact HBr.out
            have hin1 : k + 1 < ((out ++ [(45 : Int)]) ++ y :: rest).length := by rw [List.length_append, List.length_cons, hol]; omega
            have hcell1 := HB1.cell (k + 1) hin1
            have hfree1 := HB1.free (k + 1) hin1
            rw [← hol, getD_mid, hol] at hcell1
            have hend : Hid (res = (out ++ [45] ++ [up y]) ++ nkTail rest) := Lib.hid (by rw [hnk1.out, nkTail_hyp]; simp)
            have hl1 : Hid ((out ++ [(45 : Int)] ++ [up y]).length + rest.length = n) := Lib.hid (by have := Hlen.out; simp only [List.length_append, List.length_cons, List.length_nil] at this ⊢; omega)
            have hr2 : Hid (∀ z ∈ rest, (0 ≤ z ∧ z ≤ 255) ∧ lo z = z) := Lib.hid (fun z hz => hr1.out z (List.mem_cons_of_mem _ hz))
            have hko1 : Hid (k + 1 + 1 = (out ++ [(45 : Int)] ++ [up y]).length) := Lib.hid (by rw [List.length_append, hol]; rfl)
            have hsame : Hid (up y = y → Br wr 5 g ((out ++ [45] ++ [up y]) ++ rest)) := Lib.hid (fun hu => by rw [hu, ← set_same]; exact HB1)
            have hset : Hid (∀ v, Br (wr.setCell ⟨g, k + 1, none⟩ (.int .u8 v)) 5 g ((out ++ [45] ++ [v]) ++ rest)) := Lib.hid (fun v => by
              have h := HB1.set (k + 1) v
              rw [← hol, set_mid, hol] at h
              exact h)
            clear e1 hol HB1 hin1 hfree hx
            by_cases c1 : 97 ≤ y
            · by_cases c2 : y ≤ 122
              · have hu : Hid (up y = y - 32) := Lib.hid (if_pos ⟨c1, c2⟩)
                have hO1 : Hid (Below w.heap.size w (wr.setCell ⟨g, k + 1, none⟩ (.int .u8 (y - 32)))) := Lib.hid (HO.out.setCell (p := ⟨g, k + 1, none⟩) hge _)
                go_wp2
                go_roundw
                case rel => exact ⟨k + 1 + 1, out ++ [45] ++ [up y], rest, by go_num, .inl hko1.out, hl1, hr2, Lib.hid (by rw [if_neg (by omega)]; exact hend.out), Lib.hid (by rw [hu.out]; exact hset.out _), hO1⟩
                case measure => simp [intOf]; omega
              · have hu : Hid (up y = y) := Lib.hid (if_neg (by omega))
                go_wp2
                go_roundw
                case rel => exact ⟨k + 1 + 1, out ++ [45] ++ [up y], rest, by go_num, .inl hko1.out, hl1, hr2, Lib.hid (by rw [if_neg (by omega)]; exact hend.out), Lib.hid (hsame.out hu.out), HO⟩
                case measure => simp [intOf]; omega
            · have hu : Hid (up y = y) := Lib.hid (if_neg (by omega))
              go_wp2
              go_roundw
              case rel => exact ⟨k + 1 + 1, out ++ [45] ++ [up y], rest, by go_num, .inl hko1.out, hl1, hr2, Lib.hid (by rw [if_neg (by omega)]; exact hend.out), Lib.hid (hsame.out hu.out), HO⟩
              case measure => simp [intOf]; omega
        · have h45b : (x != 45) = true := bne_iff_ne.2 h45
          have hend : Hid (res = (out ++ [x]) ++ nkTail rest) := Lib.hid (by rw [hnk1.out, nkTail_other x rest h45, hxl.out]; simp)
          have hl1 : Hid ((out ++ [x]).length + rest.length = n) := Lib.hid (by have := Hlen.out; simp only [List.length_append, List.length_cons, List.length_nil] at this ⊢; omega)
          have hko1 : Hid (k + 1 = (out ++ [x]).length) := Lib.hid (by rw [List.length_append, ← Hko.out]; rfl)
          clear h45
          go_wp2
          go_roundw
          case rel => exact ⟨k + 1, out ++ [x], rest, by go_num, .inl hko1.out, hl1, hr1, Lib.hid (by rw [if_neg (by omega)]; exact hend.out), Lib.hid (by rw [← set_same]; exact HBr.out), HO⟩
          case measure => simp [intOf]; omega
theorem laws_normal.calls (a0 : ByteArray) (r : ByteArray) (w : World) (h : laws_normal.f a0 = some r) :
    Calls Try.prog 12 #[.string a0] w fun e w' => e = .returned (.string r) ∧ Below w.heap.size w w' := by
  unfold laws_normal.f at h
  by_cases hbd : a0.size ≤ 4611686018427387904
  · rw [if_pos hbd] at h
    obtain rfl : strOfNums (nk (ns a0)) = r := Option.some.inj h
    exact normal_calls a0 w hbd
  · rw [if_neg hbd] at h
    cases h
end Go.Proofs.Ytoimkmoalmmooaa.Given
set_option linter.unusedVariables false
set_option linter.unusedSimpArgs false
namespace Go.Proofs.Ytoimkmoalmmooaa.Own
open Go.RowKit Go.Proofs.YtoimkmoalmmooaaW.PrintWords Go.Proofs.YtoimkmoalmmooaaW.PrintLast Go.Proofs.YtoimkmoalmmooaaW.PrintMore Go.Proofs.Ytoimkmoalmmooaa.Base Go.Proofs.Ytoimkmoalmmooaa.Gv
structure Stp (F : Nat → Prop) (l l' : Nat → Nat) (w w' : World) : Prop where
  os : w'.os = w.os
  tape : w'.tape = w.tape
  output : w'.output = w.output
  size : w.heap.size ≤ w'.heap.size
  lab : ∀ b, b < w.heap.size → l' b = l b
  block : ∀ b, b < w.heap.size → ¬ F (l b) → w'.heap[b]? = w.heap[b]?
theorem Stp.refl (F : Nat → Prop) (l : Nat → Nat) (w : World) : Stp F l l w w := ⟨rfl, rfl, rfl, Nat.le_refl _, fun _ _ => rfl, fun _ _ _ => rfl⟩
theorem Stp.trans {F : Nat → Prop} {l l1 l2 : Nat → Nat} {w w1 w2 : World} (h : Stp F l l1 w w1) (k : Stp F l1 l2 w1 w2) : Stp F l l2 w w2 :=
  ⟨k.os.trans h.os, k.tape.trans h.tape, k.output.trans h.output, Nat.le_trans h.size k.size, fun b hb => (k.lab b (Nat.lt_of_lt_of_le hb h.size)).trans (h.lab b hb),
    fun b hb hf => (k.block b (Nat.lt_of_lt_of_le hb h.size) (by rw [h.lab b hb]; exact hf)).trans (h.block b hb hf)⟩
theorem Stp.mono {F G : Nat → Prop} {l l1 : Nat → Nat} {w w1 : World} (h : Stp F l l1 w w1) (hf : ∀ z, F z → G z) : Stp G l l1 w w1 :=
  ⟨h.os, h.tape, h.output, h.size, h.lab, fun b hb hg => h.block b hb (fun k => hg (hf _ k))⟩
def ext (l : Nat → Nat) (n z : Nat) : Nat → Nat := fun b => if b < n then l b else z
theorem ext_old (l : Nat → Nat) {n z b : Nat} (h : b < n) : ext l n z b = l b := if_pos h
theorem ext_new (l : Nat → Nat) {n z b : Nat} (h : n ≤ b) : ext l n z b = z := if_neg (by omega)
theorem Stp.below {F : Nat → Prop} {l l1 : Nat → Nat} {w w1 : World} (h : Stp F l l1 w w1) {B : Nat} (hB : B ≤ w.heap.size) (hl : ∀ b, b < B → ¬ F (l b)) : Below B w w1 :=
  ⟨h.os, h.tape, h.output, h.size, fun b hb => h.block b (by omega) (hl b hb)⟩
theorem Stp.of_below {w w1 : World} (h : Below w.heap.size w w1) (F : Nat → Prop) (l : Nat → Nat) (z : Nat) : Stp F l (ext l w.heap.size z) w w1 :=
  ⟨h.os, h.tape, h.output, h.size, fun b hb => ext_old l hb, fun b hb _ => h.block b hb⟩
theorem Stp.of_below_same {w w1 : World} (h : Below w.heap.size w w1) (F : Nat → Prop) (l : Nat → Nat) : Stp F l l w w1 :=
  ⟨h.os, h.tape, h.output, h.size, fun b hb => rfl, fun b hb _ => h.block b hb⟩
theorem Stp.set {l : Nat → Nat} (w : World) (a : Addr) (v : Value) : Stp (· = l a.block) l l w (w.setCell a v) :=
  ⟨rfl, rfl, rfl, by simp, fun _ _ => rfl, fun b hb hf => Below.heap_setCell _ _ _ _ (fun e => hf (by rw [e]))⟩
def Cl (l : Nat → Nat) (w : World) (z p : Nat) (T : TypeId) (cs : Array Value) : Prop := w.heap[p]? = some (.cells cs T (0, 0)) ∧ l p = z
section
variable {l l1 : Nat → Nat} {w w1 : World} {z p : Nat} {T : TypeId} {cs : Array Value} {F : Nat → Prop}
theorem Cl.lt (h : Cl l w z p T cs) : p < w.heap.size := (Array.getElem?_eq_some_iff.1 h.1).1
theorem Cl.cell (h : Cl l w z p T cs) (o : Nat) : w.cell? ⟨p, o, none⟩ = cs[o]? := cell_of_row w p o _ _ (0, 0) h.1
theorem Cl.free (h : Cl l w z p T cs) (o : Nat) : w.frozen? ⟨p, o, none⟩ = false := frozen_of_row _ _ o _ _ h.1
theorem Cl.keep (h : Cl l w z p T cs) (s : Stp F l l1 w w1) (hz : ¬ F z) : Cl l1 w1 z p T cs :=
  ⟨(s.block p h.lt (by rw [h.2]; exact hz)).trans h.1, (s.lab p h.lt).trans h.2⟩
theorem Cl.set (h : Cl l w z p T cs) (o : Nat) (v : Value) : Cl l (w.setCell ⟨p, o, none⟩ v) z p T (cs.setIfInBounds o v) ∧ Stp (· = z) l l w (w.setCell ⟨p, o, none⟩ v) :=
  ⟨⟨heap_setCell_same w p o cs T v h.1, h.2⟩, by have := Stp.set (l := l) w ⟨p, o, none⟩ v; rwa [show l (⟨p, o, none⟩ : Addr).block = z from h.2] at this⟩
end
def Bf (l : Nat → Nat) (w : World) (z : Nat) (v : Value) (xs : List Int) : Prop := w.ownsRow 0 5 1 v xs.length (nums .u8 xs) ∧ ∀ b, v.ownBlock = some b → l b = z
section
variable {l l1 : Nat → Nat} {w w1 : World} {z : Nat} {v : Value} {xs ys : List Int} {F : Nat → Prop}
theorem Bf.nil (l : Nat → Nat) (w : World) (z : Nat) : Bf l w z (.slice none 0 0) [] := ⟨World.ownsRow_nil w 0 _ 1, fun b hb => by simp [Value.ownBlock] at hb⟩
theorem Bf.keep (h : Bf l w z v xs) (s : Stp F l l1 w w1) (hz : ¬ F z) : Bf l1 w1 z v xs := by
  obtain ⟨ho, hb⟩ := h
  refine ⟨⟨ho.1, ?_⟩, fun b e => (s.lab b (ho.lt b e).2).trans (hb b e)⟩
  rcases ho.2 with hn | ⟨g, cap, cur, rfl, h0, hg, rest⟩
  · exact .inl hn
  · have hlt := (Array.getElem?_eq_some_iff.1 hg).1
    exact .inr ⟨g, cap, cur, rfl, h0, (s.block g hlt (by rw [hb g rfl]; exact hz)).trans hg, rest⟩
theorem Bf.cut (h : Bf l w z v xs) (k : Nat) (hk : k ≤ xs.length) : ∃ A c, v = .slice A xs.length c ∧ xs.length ≤ c ∧ Bf l w z (.slice A k c) (xs.take k) := by
  obtain ⟨ho, hb⟩ := h
  have hlk : (xs.take k).length = k := by rw [List.length_take]; omega
  rcases ho.2 with ⟨rfl, hn⟩ | ⟨g, cap, cur, rfl, h0, hg, hnc, hcm, hcs, htk⟩
  · obtain rfl : xs = [] := List.eq_nil_of_length_eq_zero hn
    obtain rfl : k = 0 := by simpa using hk
    exact ⟨none, 0, rfl, Nat.le_refl _, Bf.nil l w z⟩
  · refine ⟨_, cap, rfl, hnc, ⟨by simp [nums], .inr ⟨g, cap, cur, by rw [hlk], h0, hg, by rw [hlk]; omega, hcm, hcs, ?_⟩⟩, fun b e => hb b e⟩
    have : (cur.toList.take (xs.length * 1)).take k = (nums .u8 xs).take k := by rw [htk]
    rw [List.take_take, Nat.mul_one, Nat.min_eq_left hk] at this
    rw [hlk, Nat.mul_one, this]
    simp [nums, List.map_take]
theorem Bf.slice (h : Bf l w z v xs) : ∃ A c, v = .slice A xs.length c ∧ xs.length ≤ c := by
  obtain ⟨A, c, h1, h2, _⟩ := h.cut 0 (Nat.zero_le _)
  exact ⟨A, c, h1, h2⟩
theorem Bf.cut0 {A : Option Addr} {n c : Nat} (h : Bf l w z (.slice A n c) xs) : n = xs.length ∧ Bf l w z (.slice A 0 c) [] := by
  obtain ⟨A', c', h1, h2, h3⟩ := h.cut 0 (Nat.zero_le _)
  injection h1 with e1 e2 e3
  subst e1 e3
  exact ⟨e2, by simpa using h3⟩
theorem Bf.appended (h : Bf l w z v xs) {v' : Value} (ho : w1.ownsRow 0 5 1 v' ys.length (nums .u8 ys)) (hg : w.grownBy w1 v.ownBlock) (hv : v'.ownBlock = v.ownBlock ∨ ∃ b, v'.ownBlock = some b ∧ w.heap.size ≤ b) :
    Bf (ext l w.heap.size z) w1 z v' ys ∧ Stp (· = z) l (ext l w.heap.size z) w w1 := by
  refine ⟨⟨ho, fun b e => ?_⟩, ⟨hg.os, hg.tape, hg.output, hg.size, fun b hb => ext_old l hb, fun b hb hf => hg.block b hb (fun e => hf (h.2 b e.symm))⟩⟩
  rcases hv with hv | ⟨b', hv, hs⟩
  · rw [hv] at e
    rw [ext_old l (h.1.lt b e).2]
    exact h.2 b e
  · rw [hv] at e
    injection e with e
    subst e
    exact ext_new l hs
theorem Bf.reads {A : Option Addr} {n c : Nat} (h : Bf l w z (.slice A n c) xs) : ReadsInt w .u8 A xs.length xs := by
  obtain ⟨⟨_, h1⟩, _⟩ := h
  rcases h1 with ⟨h1, hn⟩ | ⟨g, cap, cur, h1, h0, hg, hnc, hcm, hcs, htk⟩
  · injection h1 with e1 e2 e3
    subst e1 e2 e3
    obtain rfl : xs = [] := List.eq_nil_of_length_eq_zero hn
    exact ⟨rfl, by simp, fun h => by simp at h⟩
  · injection h1 with e1 e2 e3
    subst e1 e2 e3
    refine ⟨rfl, by unfold maxLen at hcm; omega, fun _ => ⟨_, rfl, fun i hi => ?_⟩⟩
    rw [Addr.add_lit, Nat.zero_add, cell_of_row w g i _ _ (0, 0) hg]
    have := congrArg (fun l => l[i]?) htk
    simp only [List.getElem?_take] at this
    rw [if_pos (by omega)] at this
    rw [Array.getElem?_toList] at this
    rw [this]
    simp [nums, List.getD_eq_getElem?_getD, List.getElem?_eq_getElem hi]
theorem Bf.byte {A : Option Addr} {n c : Nat} (h : Bf l w z (.slice A n c) xs) (hx : xs ≠ []) : ∃ g, A = some ⟨g, 0, none⟩ ∧ l g = z := by
  obtain ⟨⟨_, h1⟩, h2⟩ := h
  rcases h1 with ⟨h1, hn⟩ | ⟨g, cap, cur, h1, _⟩
  · exact absurd (List.eq_nil_of_length_eq_zero hn) hx
  · injection h1 with e1 e2 e3
    subst e1
    exact ⟨g, rfl, h2 g rfl⟩
end
theorem own_some {v v1 : Value} {n : Nat} (hv : v1.ownBlock = v.ownBlock ∨ ∃ b, v1.ownBlock = some b ∧ n ≤ b) (h : v.ownBlock ≠ none) : v1.ownBlock ≠ none := by
  rcases hv with e | ⟨b, e, _⟩
  · rw [e]; exact h
  · rw [e]; exact fun k => by cases k
theorem app_row {P : Program} {ops : Array Oper} {rest : List Oper} {o : Oper} {a : Act} {Q : Exit → Act → World → Prop} {l : Nat → Nat} {W : World} (z : Nat) (hgd : o.guard = none) (s x : Operand) (t : TypeId)
    (ho : o.op = .call { callee := .builtin .append, args := #[s, x], argTypes := #[t, t] })
    (ht : P.underlying t = some (.slice 5)) (hinfo : (P.info? 5).map (fun i => (i.zero, i.size, i.bytes)) = some (some (.int .u8 0), 1, 1))
    (v : Value) (xs ys : List Int) (A : Option Addr) (m c : Nat) (hs : a.eval s = v) (hx : a.eval x = .slice A m c)
    (HO : Bf l W z v xs) (HR : ReadsInt W .u8 A m ys) (hl : xs.length + m ≤ 140737488355328)
    (h : ∀ v1 w1 l1, Bf l1 w1 z v1 (xs ++ ys) → Stp (· = z) l l1 W w1 → (v.ownBlock ≠ none → v1.ownBlock ≠ none) → wpList P ops Q rest (a.put o.dst v1) w1) :
    wpList P ops Q (o :: rest) a W :=
  print_append_row (w0 := W) 0 hgd s x t 5 .u8 1 ho ht hinfo (by decide) v xs ys A m c hs hx HO.1 HR (Below.refl _ _) (Nat.zero_le _) (by omega)
    (fun v1 w1 hown _ hg hv => (fun q => h v1 w1 _ q.1 q.2 (own_some hv)) (HO.appended hown hg hv))
theorem run_app_str {P : Program} {l : Nat → Nat} {W : World} {z : Nat} (t u ty : TypeId)
    (ht : P.underlying t = some (.slice 5)) (hu : P.underlying u = some .string) (hinfo : (P.info? 5).map (fun i => (i.zero, i.size, i.bytes)) = some (some (.int .u8 0), 1, 1))
    (v : Value) (xs : List Int) (s : ByteArray) (HO : Bf l W z v xs) (hl : xs.length + s.size ≤ 140737488355328) :
    ∃ v1 w1 l1, (Builtin.append_ #[t, u] ty #[v, .string s]).run P W = .ok v1 w1 ∧ Bf l1 w1 z v1 (xs ++ ns s) ∧ Stp (· = z) l l1 W w1 ∧ (v.ownBlock ≠ none → v1.ownBlock ≠ none) := by
  obtain ⟨i0, hi, hz0, hz1, hz2⟩ := info_parts hinfo
  have hmx : xs.length + s.size ≤ maxLen := by simp only [maxLen]; omega
  have hown := HO.1
  have hlen : (nums .u8 xs).length = xs.length := by simp [nums]
  obtain ⟨v1, w1, hr, ho, hg, _⟩ := Lib.run_append_own_string (P := P) W 0 t u ty 5 i0 ht hu hi hz0 hz1 hz2 v xs.length (nums .u8 xs) hown s hmx hl (Nat.zero_le _)
  have hat : v1.ownBlock = v.ownBlock ∨ ∃ b, v1.ownBlock = some b ∧ W.heap.size ≤ b := by
    rcases hown.2 with ⟨rfl, hn⟩ | ⟨g, cap, cur, rfl, _, hgg, hnc, hcm, hcs, htk⟩
    · obtain ⟨v2, w2, hr2, ho2, _, _⟩ := Lib.run_append_own_string (P := P) W W.heap.size t u ty 5 i0 ht hu hi hz0 hz1 hz2 (.slice none 0 0) 0 [] (World.ownsRow_nil _ _ _ _) s (by omega) (by omega) (Nat.le_refl _)
      rw [hr] at hr2
      cases hr2
      cases hb : v1.ownBlock with
      | none => exact .inl rfl
      | some b => exact .inr ⟨b, rfl, (ho2.lt b hb).1⟩
    · by_cases hroom : xs.length + s.size ≤ cap
      · rw [Lib.run_append_room_string (P := P) W t u ty 5 i0 ht hu hi hz1 g xs.length cap cur hgg s hroom (by omega)] at hr
        cases hr
        exact .inl rfl
      · rw [Lib.run_append_grow_string (P := P) W t u ty 5 i0 _ ht hu hi hz0 ⟨g, 0, none⟩ xs.length cap (nums .u8 xs) (by rw [hz1, hlen, Nat.mul_one]) (hown.cells (g := g) rfl) s (by omega) (by omega) (growslice_fits (by omega) (by rw [hz2]; omega))] at hr
        cases hr
        exact .inr ⟨_, rfl, Nat.le_refl _⟩
  have e : nums .u8 xs ++ Lib.strCells s = nums .u8 (xs ++ ns s) := by
    rw [nums_append]
    congr 1
    simp [nums, ns, Lib.strCells]
  have e2 : xs.length + s.size = (xs ++ ns s).length := by rw [List.length_append, ns_length]
  rw [e, e2] at ho
  exact ⟨v1, w1, _, hr, (HO.appended ho hg hat).1, (HO.appended ho hg hat).2, own_some hat⟩
theorem app_str {P : Program} {ops : Array Oper} {rest : List Oper} {o : Oper} {a : Act} {Q : Exit → Act → World → Prop} {l : Nat → Nat} {W : World} (z : Nat) (hgd : o.guard = none) (s x : Operand) (t u : TypeId)
    (ho : o.op = .call { callee := .builtin .append, args := #[s, x], argTypes := #[t, u] })
    (ht : P.underlying t = some (.slice 5)) (hu : P.underlying u = some .string) (hinfo : (P.info? 5).map (fun i => (i.zero, i.size, i.bytes)) = some (some (.int .u8 0), 1, 1))
    (v : Value) (xs : List Int) (y : ByteArray) (hs : a.eval s = v) (hx : a.eval x = .string y)
    (HO : Bf l W z v xs) (hl : xs.length + y.size ≤ 140737488355328)
    (h : ∀ v1 w1 l1, Bf l1 w1 z v1 (xs ++ ns y) → Stp (· = z) l l1 W w1 → (v.ownBlock ≠ none → v1.ownBlock ≠ none) → wpList P ops Q rest (a.put o.dst v1) w1) :
    wpList P ops Q (o :: rest) a W := by
  obtain ⟨v1, w1, l1, hr, hB, hS, hN⟩ := run_app_str (P := P) t u o.type ht hu hinfo v xs y HO hl
  refine wpList_plain hgd fun K hK => ?_
  unfold Oper.wp execOp
  simp only [ho, resolve, invoke, builtin, Sem.run_bind, Sem.run_pure, Result.andThen_ok, List.map_toArray, List.map_cons, List.map_nil, hs, hx, hr]
  exact hK _ _ (h v1 w1 l1 hB hS hN)
theorem app_run {P : Program} {ops : Array Oper} {rest : List Oper} {o : Oper} {a : Act} {Q : Exit → Act → World → Prop} {W w1 : World} (hgd : o.guard = none) (s x : Operand) (t u : TypeId)
    (ho : o.op = .call { callee := .builtin .append, args := #[s, x], argTypes := #[t, u] }) (V X v1 : Value) (hs : a.eval s = V) (hx : a.eval x = X)
    (hr : (Builtin.append_ #[t, u] o.type #[V, X]).run P W = .ok v1 w1) (h : wpList P ops Q rest (a.put o.dst v1) w1) : wpList P ops Q (o :: rest) a W := by
  refine wpList_plain hgd fun K hK => ?_
  unfold Oper.wp execOp
  simp only [ho, resolve, invoke, builtin, Sem.run_bind, Sem.run_pure, Result.andThen_ok, List.map_toArray, List.map_cons, List.map_nil, hs, hx, hr]
  exact hK _ _ h
end Go.Proofs.Ytoimkmoalmmooaa.Own
set_option linter.unusedVariables false
set_option linter.unusedSimpArgs false
namespace Go.Proofs.Ytoimkmoalmmooaa.Own
open Go.RowKit Go.Proofs.YtoimkmoalmmooaaW.PrintWords Go.Proofs.YtoimkmoalmmooaaW.PrintLast Go.Proofs.YtoimkmoalmmooaaW.PrintMore Go.Proofs.Ytoimkmoalmmooaa.Base Go.Proofs.Ytoimkmoalmmooaa.Gv
structure Slot where
  id : Nat
  k : Value
  kx : List Int
  v : Value
  vx : List Int
  no : Bool
def Slot.cells (s : Slot) : List Value := [s.k, s.v, .bool s.no]
def cellsOf (S : List Slot) : List Value := S.flatMap Slot.cells
theorem cellsOf_cons (s : Slot) (S : List Slot) : cellsOf (s :: S) = s.k :: s.v :: .bool s.no :: cellsOf S := rfl
theorem cellsOf_append (A B : List Slot) : cellsOf (A ++ B) = cellsOf A ++ cellsOf B := by simp [cellsOf]
theorem cellsOf_length (S : List Slot) : (cellsOf S).length = S.length * 3 := by
  induction S with
  | nil => rfl
  | cons s S ih => rw [cellsOf_cons]; simp only [List.length_cons, ih]; omega
theorem cellsOf_at : ∀ (S : List Slot) (i : Nat) (s : Slot), S[i]? = some s → ∀ j, j < 3 → (cellsOf S)[i * 3 + j]? = s.cells[j]?
  | [], _, _, h, _, _ => by simp at h
  | t :: S, 0, s, h, j, hj => by
    simp only [List.getElem?_cons_zero, Option.some.injEq] at h
    subst h
    rw [cellsOf_cons, Nat.zero_mul, Nat.zero_add]
    match j, hj with
    | 0, _ => rfl
    | 1, _ => rfl
    | 2, _ => rfl
  | t :: S, i + 1, s, h, j, hj => by
    have := cellsOf_at S i s (by simpa using h) j hj
    rw [cellsOf_cons, show (i + 1) * 3 + j = (i * 3 + j) + 1 + 1 + 1 by omega, List.getElem?_cons_succ, List.getElem?_cons_succ, List.getElem?_cons_succ]
    exact this
theorem cellsOf_set : ∀ (S : List Slot) (i : Nat) (s s' : Slot), S[i]? = some s → ∀ j u, j < 3 → s'.cells = s.cells.set j u → (cellsOf S).set (i * 3 + j) u = cellsOf (S.set i s')
  | [], _, _, _, h, _, _, _, _ => by simp at h
  | t :: S, 0, s, s', h, j, u, hj, hc => by
    simp only [List.getElem?_cons_zero, Option.some.injEq] at h
    subst h
    rw [List.set_cons_zero, cellsOf_cons, cellsOf_cons, Nat.zero_mul, Nat.zero_add]
    have h0 := congrArg (fun x => x[0]?) hc
    have h1 := congrArg (fun x => x[1]?) hc
    have h2 := congrArg (fun x => x[2]?) hc
    match j, hj with
    | 0, _ => simp [Slot.cells] at h0 h1 h2 ⊢; simp [h0, h1, h2]
    | 1, _ => simp [Slot.cells] at h0 h1 h2 ⊢; simp [h0, h1, h2]
    | 2, _ => simp [Slot.cells] at h0 h1 h2 ⊢; simp [h0, h1, h2]
  | t :: S, i + 1, s, s', h, j, u, hj, hc => by
    have := cellsOf_set S i s s' (by simpa using h) j u hj hc
    rw [cellsOf_cons, show (i + 1) * 3 + j = (i * 3 + j) + 1 + 1 + 1 by omega, List.set_cons_succ, List.set_cons_succ, List.set_cons_succ, this]
    rfl
def kLab (z id : Nat) : Nat := z + 64 * (2 * id + 1)
def vLab (z id : Nat) : Nat := z + 64 * (2 * id + 2)
def Zn (z : Nat) : Nat → Prop := fun lab => lab % 64 = z
structure Kv (l : Nat → Nat) (w : World) (z a : Nat) (S : List Slot) : Prop where
  hz : z < 64
  arr : Cl l w z a 56 (cellsOf S).toArray
  slot : ∀ s ∈ S, Bf l w (kLab z s.id) s.k s.kx ∧ Bf l w (vLab z s.id) s.v s.vx
  ids : (S.map Slot.id).Nodup
section
variable {l l1 : Nat → Nat} {w w1 : World} {z a : Nat} {S : List Slot} {F : Nat → Prop}
theorem Kv.keep (h : Kv l w z a S) (s : Stp F l l1 w w1) (hF : ∀ lab, F lab → lab % 64 ≠ z) : Kv l1 w1 z a S := by
  have hz := h.hz
  have nz : ¬ F z := fun k => hF _ k (Nat.mod_eq_of_lt hz)
  refine ⟨hz, h.arr.keep s nz, fun t ht => ⟨(h.slot t ht).1.keep s (fun k => hF _ k ?_), (h.slot t ht).2.keep s (fun k => hF _ k ?_)⟩, h.ids⟩
  · unfold kLab; omega
  · unfold vLab; omega
theorem Kv.cell (h : Kv l w z a S) {i : Nat} {s : Slot} (hs : S[i]? = some s) : w.cell? ⟨a, i * 3, none⟩ = some s.k ∧ w.cell? ⟨a, i * 3 + 1, none⟩ = some s.v ∧ w.cell? ⟨a, i * 3 + 2, none⟩ = some (.bool s.no) := by
  have h0 := cellsOf_at S i s hs 0 (by omega)
  have h1 := cellsOf_at S i s hs 1 (by omega)
  have h2 := cellsOf_at S i s hs 2 (by omega)
  refine ⟨?_, ?_, ?_⟩
  · rw [h.arr.cell, List.getElem?_toArray]; simpa [Slot.cells] using h0
  · rw [h.arr.cell, List.getElem?_toArray]; simpa [Slot.cells] using h1
  · rw [h.arr.cell, List.getElem?_toArray]; simpa [Slot.cells] using h2
theorem Kv.free (h : Kv l w z a S) (o : Nat) : w.frozen? ⟨a, o, none⟩ = false := h.arr.free o
theorem Kv.row (h : Kv l w z a S) {i : Nat} {s : Slot} (hs : S[i]? = some s) : Bf l w (kLab z s.id) s.k s.kx ∧ Bf l w (vLab z s.id) s.v s.vx := h.slot s (List.mem_of_getElem? hs)
theorem mem_set_ids {S : List Slot} {i : Nat} {s s' t : Slot} (hn : (S.map Slot.id).Nodup) (hs : S[i]? = some s) (ht : t ∈ S.set i s') : t = s' ∨ (t ∈ S ∧ t.id ≠ s.id) := by
  obtain ⟨m, hm⟩ := List.mem_iff_getElem?.1 ht
  rw [List.getElem?_set] at hm
  by_cases e : i = m
  · subst e
    rw [if_pos rfl] at hm
    split at hm
    · left; exact (Option.some.inj hm).symm
    · cases hm
  · rw [if_neg e] at hm
    refine .inr ⟨List.mem_of_getElem? hm, fun hid => e ?_⟩
    have h1 : (S.map Slot.id)[i]? = some s.id := by rw [List.getElem?_map, hs]; rfl
    have h2 : (S.map Slot.id)[m]? = some s.id := by rw [List.getElem?_map, hm]; simp [hid]
    have hi : i < (S.map Slot.id).length := (List.getElem?_eq_some_iff.1 h1).1
    exact (List.getElem?_inj hi hn).1 (h1.trans h2.symm)
theorem ids_set {S : List Slot} {i : Nat} {s s' : Slot} (hs : S[i]? = some s) (hid : s'.id = s.id) : (S.set i s').map Slot.id = S.map Slot.id := by
  rw [List.map_set, hid]
  apply List.ext_getElem?
  intro m
  rw [List.getElem?_set]
  split
  · rename_i e
    subst e
    split
    · rw [List.getElem?_map, hs]; rfl
    · rename_i h
      rw [List.getElem?_eq_none (by omega)]
  · rfl
theorem Kv.put (h : Kv l w z a S) {i : Nat} {s : Slot} (s' : Slot) (hs : S[i]? = some s) (hid : s'.id = s.id) {j : Nat} (hj : j < 3) {u : Value} (hc : s'.cells = s.cells.set j u) (st : Stp F l l1 w w1) (hF : ∀ lab, F lab → lab = kLab z s.id ∨ lab = vLab z s.id)
    (hk : Bf l1 w1 (kLab z s.id) s'.k s'.kx) (hv : Bf l1 w1 (vLab z s.id) s'.v s'.vx) : Kv l1 (w1.setCell ⟨a, i * 3 + j, none⟩ u) z a (S.set i s') ∧ Stp (Zn z) l l1 w (w1.setCell ⟨a, i * 3 + j, none⟩ u) := by
  have hz := h.hz
  have kz : ∀ id, kLab z id ≠ z := fun id => by unfold kLab; omega
  have vz : ∀ id, vLab z id ≠ z := fun id => by unfold vLab; omega
  have h1 : Cl l1 w1 z a 56 (cellsOf S).toArray := h.arr.keep st (fun k => by
    rcases hF _ k with e | e
    · exact kz _ e.symm
    · exact vz _ e.symm)
  obtain ⟨h2, st2⟩ := h1.set (i * 3 + j) u
  have e : (cellsOf S).toArray.setIfInBounds (i * 3 + j) u = (cellsOf (S.set i s')).toArray := by
    rw [← cellsOf_set S i s s' hs j u hj hc, List.setIfInBounds_toArray]
  rw [e] at h2
  refine ⟨⟨hz, h2, fun t ht => ?_, by rw [ids_set hs hid]; exact h.ids⟩, ⟨st2.os.trans st.os, st2.tape.trans st.tape, st2.output.trans st.output, Nat.le_trans st.size st2.size, st.lab, fun b hb hf => ?_⟩⟩
  · rcases mem_set_ids h.ids hs ht with rfl | ⟨ht', hne⟩
    · rw [hid]
      exact ⟨hk.keep st2 (fun e => kz _ e), hv.keep st2 (fun e => vz _ e)⟩
    · have hb := h.slot t ht'
      refine ⟨(hb.1.keep st (fun k => ?_)).keep st2 (fun e => kz _ e), (hb.2.keep st (fun k => ?_)).keep st2 (fun e => vz _ e)⟩
      · rcases hF _ k with e | e
        · unfold kLab at e; omega
        · unfold kLab vLab at e; omega
      · rcases hF _ k with e | e
        · unfold kLab vLab at e; omega
        · unfold vLab at e; omega
  · refine (st2.block b (Nat.lt_of_lt_of_le hb st.size) (fun e => hf ?_)).trans (st.block b hb (fun k => hf ?_))
    · rw [st.lab b hb] at e
      unfold Zn
      rw [e]
      exact Nat.mod_eq_of_lt hz
    · unfold Zn
      rcases hF _ k with e | e
      · rw [e]; unfold kLab; omega
      · rw [e]; unfold vLab; omega
theorem Kv.storeK (h : Kv l w z a S) {i : Nat} {s : Slot} (hs : S[i]? = some s) {v1 : Value} {ys : List Int} (hb : Bf l1 w1 (kLab z s.id) v1 ys) (st : Stp (· = kLab z s.id) l l1 w w1) :
    Kv l1 (w1.setCell ⟨a, i * 3, none⟩ v1) z a (S.set i { s with k := v1, kx := ys }) ∧ Stp (Zn z) l l1 w (w1.setCell ⟨a, i * 3, none⟩ v1) :=
  h.put (j := 0) { s with k := v1, kx := ys } hs rfl (by omega) rfl st (fun _ e => .inl e) hb ((h.row hs).2.keep st (fun e => by unfold kLab vLab at e; omega))
theorem Kv.storeV (h : Kv l w z a S) {i : Nat} {s : Slot} (hs : S[i]? = some s) {v1 : Value} {ys : List Int} (hb : Bf l1 w1 (vLab z s.id) v1 ys) (st : Stp (· = vLab z s.id) l l1 w w1) :
    Kv l1 (w1.setCell ⟨a, i * 3 + 1, none⟩ v1) z a (S.set i { s with v := v1, vx := ys }) ∧ Stp (Zn z) l l1 w (w1.setCell ⟨a, i * 3 + 1, none⟩ v1) :=
  h.put (j := 1) { s with v := v1, vx := ys } hs rfl (by omega) rfl st (fun _ e => .inr e) ((h.row hs).1.keep st (fun e => by unfold kLab vLab at e; omega)) hb
theorem Kv.storeN (h : Kv l w z a S) {i : Nat} {s : Slot} (hs : S[i]? = some s) (b : Bool) :
    Kv l (w.setCell ⟨a, i * 3 + 2, none⟩ (.bool b)) z a (S.set i { s with no := b }) ∧ Stp (Zn z) l l w (w.setCell ⟨a, i * 3 + 2, none⟩ (.bool b)) :=
  h.put (j := 2) { s with no := b } hs rfl (by omega) rfl (Stp.refl (fun _ => False) l w) (fun _ e => e.elim) (h.row hs).1 (h.row hs).2
end
def KvS (l : Nat → Nat) (w : World) (z : Nat) (V : Value) (n : Nat) (S : List Slot) : Prop :=
  z < 64 ∧ (∀ s ∈ S.take n, s.v.ownBlock ≠ none) ∧ ((V = .slice none 0 0 ∧ S = [] ∧ n = 0) ∨ ∃ a, V = .slice (some ⟨a, 0, none⟩) n S.length ∧ n ≤ S.length ∧ S.length ≤ maxLen ∧ Kv l w z a S)
theorem KvS.keep {l l1 : Nat → Nat} {w w1 : World} {z n : Nat} {V : Value} {S : List Slot} {F : Nat → Prop} (h : KvS l w z V n S) (s : Stp F l l1 w w1) (hF : ∀ lab, F lab → lab % 64 ≠ z) : KvS l1 w1 z V n S := by
  obtain ⟨hz, hn, h | ⟨a, h1, h2, h3, h4⟩⟩ := h
  · exact ⟨hz, hn, .inl h⟩
  · exact ⟨hz, hn, .inr ⟨a, h1, h2, h3, h4.keep s hF⟩⟩
theorem KvS.nil (l : Nat → Nat) (w : World) (z : Nat) (hz : z < 64) : KvS l w z (.slice none 0 0) 0 [] := ⟨hz, by simp, .inl ⟨rfl, rfl, rfl⟩⟩
theorem KvS.le {l : Nat → Nat} {w : World} {z n : Nat} {V : Value} {S : List Slot} (h : KvS l w z V n S) : n ≤ S.length := by
  obtain ⟨_, _, ⟨_, rfl, rfl⟩ | ⟨a, _, h, _⟩⟩ := h
  · exact Nat.le_refl _
  · exact h
structure KVx where
  k : List Int
  v : List Int
  no : Bool
def kvs (S : List Slot) (n : Nat) : List KVx := (S.take n).map fun s => ⟨s.kx, s.vx, s.no⟩
theorem kvs_length {S : List Slot} {n : Nat} (h : n ≤ S.length) : (kvs S n).length = n := by unfold kvs; rw [List.length_map, List.length_take]; omega
theorem kvs_at {S : List Slot} {n i : Nat} {s : Slot} (h : S[i]? = some s) (hi : i < n) : (kvs S n)[i]? = some ⟨s.kx, s.vx, s.no⟩ := by
  unfold kvs
  rw [List.getElem?_map, List.getElem?_take, if_pos hi, h]; rfl
theorem kvs_set {S : List Slot} {n i : Nat} {s' : Slot} (hi : i < n) : kvs (S.set i s') n = (kvs S n).set i ⟨s'.kx, s'.vx, s'.no⟩ := by
  unfold kvs
  rw [List.take_set, List.map_set]
end Go.Proofs.Ytoimkmoalmmooaa.Own
set_option linter.unusedVariables false
set_option linter.unusedSimpArgs false
namespace Go.Proofs.Ytoimkmoalmmooaa.Own
open Go.RowKit Go.Proofs.YtoimkmoalmmooaaW.PrintWords Go.Proofs.YtoimkmoalmmooaaW.PrintLast Go.Proofs.YtoimkmoalmmooaaW.PrintMore Go.Proofs.Ytoimkmoalmmooaa.Base Go.Proofs.Ytoimkmoalmmooaa.Gv
def zSlot (id : Nat) : Slot := ⟨id, .slice none 0 0, [], .slice none 0 0, [], false⟩
def zSlots (id : Nat) : Nat → List Slot
  | 0 => []
  | m + 1 => zSlot id :: zSlots (id + 1) m
theorem zSlots_length : ∀ (m id : Nat), (zSlots id m).length = m
  | 0, _ => rfl
  | m + 1, id => by simp [zSlots, zSlots_length m]
theorem zSlots_mem : ∀ (m id : Nat) (s : Slot), s ∈ zSlots id m → ∃ j, id ≤ j ∧ s = zSlot j
  | 0, _, _, h => by cases h
  | m + 1, id, s, h => by
    rcases List.mem_cons.1 h with rfl | h
    · exact ⟨id, Nat.le_refl _, rfl⟩
    · obtain ⟨j, h1, h2⟩ := zSlots_mem m (id + 1) s h
      exact ⟨j, by omega, h2⟩
theorem zSlots_ids : ∀ (m id : Nat), ((zSlots id m).map Slot.id).Nodup
  | 0, _ => by simp [zSlots]
  | m + 1, id => by
    rw [zSlots, List.map_cons, List.nodup_cons]
    refine ⟨fun h => ?_, zSlots_ids m (id + 1)⟩
    obtain ⟨s, hs, he⟩ := List.mem_map.1 h
    obtain ⟨j, hj, rfl⟩ := zSlots_mem m (id + 1) s hs
    have : j = id := he
    omega
def zarr : Array Value := #[.slice none 0 0, .slice none 0 0, .bool false]
theorem zc_at (m j : Nat) : (Builtin.zeroCells zarr m).toList[j]? = if j < m * 3 then some (zarr[j % 3]!) else none := by
  have hs : zarr.size = 3 := rfl
  unfold Builtin.zeroCells
  rw [hs, Array.getElem?_toList, Array.getElem?_map, Array.getElem?_range]
  split <;> rfl
theorem zero_cells : ∀ (m id : Nat), (Builtin.zeroCells zarr m).toList = cellsOf (zSlots id m)
  | 0, id => by simp [Builtin.zeroCells, zSlots, cellsOf]
  | m + 1, id => by
    have ih := zero_cells m (id + 1)
    rw [zSlots, cellsOf_cons, ← ih]
    apply List.ext_getElem?
    intro j
    rw [zc_at]
    match j with
    | 0 => rw [if_pos (by omega)]; rfl
    | 1 => rw [if_pos (by omega)]; rfl
    | 2 => rw [if_pos (by omega)]; rfl
    | j + 3 =>
      rw [List.getElem?_cons_succ, List.getElem?_cons_succ, List.getElem?_cons_succ, zc_at, show (j + 3) % 3 = j % 3 by omega]
      by_cases h : j < m * 3
      · rw [if_pos h, if_pos (by omega)]
      · rw [if_neg h, if_neg (by omega)]
def topId (S : List Slot) : Nat := S.foldr (fun s m => max (s.id + 1) m) 0
theorem topId_lt (S : List Slot) : ∀ s ∈ S, s.id < topId S := by
  induction S with
  | nil => intro s h; cases h
  | cons t S ih =>
    intro s h
    have e : topId (t :: S) = max (t.id + 1) (topId S) := rfl
    rcases List.mem_cons.1 h with rfl | h
    · omega
    · have := ih s h; omega
theorem nodup_more {S : List Slot} (h : (S.map Slot.id).Nodup) (m : Nat) (s : Slot) (hs : s.id = topId S) : ((S ++ s :: zSlots (topId S + 1) m).map Slot.id).Nodup := by
  rw [List.map_append, List.nodup_append]
  refine ⟨h, ?_, fun x hx y hy => ?_⟩
  · rw [List.map_cons, List.nodup_cons]
    refine ⟨fun h => ?_, zSlots_ids m _⟩
    obtain ⟨t, ht, he⟩ := List.mem_map.1 h
    obtain ⟨j, hj, rfl⟩ := zSlots_mem m _ t ht
    have : j = s.id := he
    omega
  · obtain ⟨t, ht, rfl⟩ := List.mem_map.1 hx
    have h1 := topId_lt S t ht
    obtain ⟨u, hu, rfl⟩ := List.mem_map.1 hy
    rcases List.mem_cons.1 hu with rfl | hu
    · omega
    · obtain ⟨j, hj, rfl⟩ := zSlots_mem m _ u hu
      show t.id ≠ j
      omega
theorem run_grow_kv {l : Nat → Nat} {w W : World} {z n g0 : Nat} {V : Value} {S : List Slot} (ty : TypeId) (ad : Addr) (c : Nat)
    (hinfo : (Try.prog.info? 56).map (fun i => (i.zero, i.size, i.bytes)) = some (some (.agg zarr), 3, 56))
    (h : KvS l w z V n S) (hfull : n = S.length) (hn : n ≤ 1099511627776) (hw : Below w.heap.size w W) (hg0 : w.heap.size ≤ g0) (hg : W.heap[g0]? = some (.cells #[] 5 (0, 0)))
    (c0 : W.cell? (ad.add 0) = some (.slice none 0 0)) (c1 : W.cell? (ad.add 1) = some (.slice (some ⟨g0, 0, none⟩) 0 0)) (c2 : W.cell? (ad.add 2) = some (.bool false)) :
    ∃ l1 w1 a S1 s, (Builtin.append_ #[53, 53] ty #[V, .slice (some ad) 1 c]).run Try.prog W = .ok (.slice (some ⟨a, 0, none⟩) (n + 1) S1.length) w1 ∧
      Kv l1 w1 z a S1 ∧ n < S1.length ∧ S1.length ≤ maxLen ∧ S1.take n = S ∧ S1[n]? = some s ∧ s.v.ownBlock ≠ none ∧ Stp (Zn z) l l1 w w1 := by
  obtain ⟨i0, hi, hz0, hz1, hz2⟩ := info_parts hinfo
  obtain ⟨hz, hnn, hV⟩ := h
  have hnews : ∀ j u, ([.slice none 0 0, .slice (some ⟨g0, 0, none⟩) 0 0, .bool false] : List Value)[j]? = some u → W.cell? (ad.add j) = some u := by
    intro j u hu
    match j with
    | 0 => simp at hu; rw [← hu]; exact c0
    | 1 => simp at hu; rw [← hu]; exact c1
    | 2 => simp at hu; rw [← hu]; exact c2
    | j + 3 => simp at hu
  -- what the new row holds, whatever was there
  have fin : ∀ old : Nat, (∀ s ∈ S, Bf l w (kLab z s.id) s.k s.kx ∧ Bf l w (vLab z s.id) s.v s.vx) → (S.map Slot.id).Nodup → ∃ l1 S1 s,
      Kv l1 (W.drew.alloc (.cells ((cellsOf S).toArray ++ #[.slice none 0 0, .slice (some ⟨g0, 0, none⟩) 0 0, .bool false] ++ Builtin.zeroCells zarr (grownCap W (n + 1) old 56 - (n + 1))) 56)) z W.heap.size S1 ∧ S1.length = grownCap W (n + 1) old 56 ∧ S1.take n = S ∧ S1[n]? = some s ∧ s.v.ownBlock ≠ none ∧
      Stp (Zn z) l l1 w (W.drew.alloc (.cells ((cellsOf S).toArray ++ #[.slice none 0 0, .slice (some ⟨g0, 0, none⟩) 0 0, .bool false] ++ Builtin.zeroCells zarr (grownCap W (n + 1) old 56 - (n + 1))) 56)) := by
    intro old hslots hids
    have hge := grownCap_ge W (n + 1) old 56
    obtain ⟨G, hG⟩ : ∃ G, grownCap W (n + 1) old 56 = G := ⟨_, rfl⟩
    rw [hG] at hge ⊢
    have hsz := hw.size
    let id := topId S
    let s0 : Slot := ⟨id, .slice none 0 0, [], .slice (some ⟨g0, 0, none⟩) 0 0, [], false⟩
    let l1 : Nat → Nat := fun b => if b < w.heap.size then l b else if b = g0 then vLab z id else z
    have hg0W : g0 < W.heap.size := (Array.getElem?_eq_some_iff.1 hg).1
    obtain ⟨W1, hW1⟩ : ∃ W1, W.drew.alloc (.cells ((cellsOf S).toArray ++ #[.slice none 0 0, .slice (some ⟨g0, 0, none⟩) 0 0, .bool false] ++ Builtin.zeroCells zarr (G - (n + 1))) 56) = W1 := ⟨_, rfl⟩
    have hcells : (cellsOf S).toArray ++ #[.slice none 0 0, .slice (some ⟨g0, 0, none⟩) 0 0, .bool false] ++ Builtin.zeroCells zarr (G - (n + 1)) = (cellsOf (S ++ s0 :: zSlots (id + 1) (G - (n + 1)))).toArray := by
      apply Array.ext'
      rw [cellsOf_append, cellsOf_cons, ← zero_cells]
      simp [s0]
    have hnew : W1.heap[W.heap.size]? = some (.cells (cellsOf (S ++ s0 :: zSlots (id + 1) (G - (n + 1)))).toArray 56 (0, 0)) := by
      rw [← hW1, hcells]; exact heap_alloc_new W.drew _
    have hold : ∀ b, b < W.heap.size → W1.heap[b]? = W.heap[b]? := fun b hb => by rw [← hW1]; exact heap_alloc_old W.drew _ hb
    have hsz1 : W1.heap.size = W.heap.size + 1 := by rw [← hW1]; simp
    have st : Stp (fun _ => False) l l1 w W1 := ⟨by rw [← hW1]; exact hw.os, by rw [← hW1]; exact hw.tape, by rw [← hW1]; exact hw.output, by omega, fun b hb => if_pos hb, fun b hb _ => (hold b (by omega)).trans (hw.block b hb)⟩
    rw [hW1]
    refine ⟨l1, S ++ s0 :: zSlots (id + 1) (G - (n + 1)), s0, ⟨hz, ⟨hnew, ?_⟩, fun s hs => ?_, nodup_more hids _ s0 rfl⟩, ?_, ?_, ?_, ?_, st.mono (fun _ k => k.elim)⟩
    · show (if W.heap.size < w.heap.size then _ else if W.heap.size = g0 then _ else z) = z
      rw [if_neg (by omega), if_neg (by omega)]
    · rcases List.mem_append.1 hs with h | h
      · exact ⟨(hslots s h).1.keep st (fun k => k), (hslots s h).2.keep st (fun k => k)⟩
      · rcases List.mem_cons.1 h with rfl | h
        · refine ⟨Bf.nil _ _ _, ⟨⟨rfl, .inr ⟨g0, 0, #[], rfl, Nat.zero_le _, (hold g0 hg0W).trans hg, Nat.le_refl _, Nat.zero_le _, rfl, rfl⟩⟩, fun b e => ?_⟩⟩
          obtain rfl : g0 = b := Option.some.inj e
          show (if g0 < w.heap.size then _ else if g0 = g0 then _ else z) = _
          rw [if_neg (by omega), if_pos rfl]
        · obtain ⟨j, _, rfl⟩ := zSlots_mem _ _ s h
          exact ⟨Bf.nil _ _ _, Bf.nil _ _ _⟩
    · rw [List.length_append, List.length_cons, zSlots_length]; omega
    · rw [hfull]; exact List.take_left
    · rw [hfull, List.getElem?_append_right (Nat.le_refl _), Nat.sub_self]; rfl
    · intro e; cases e
  rcases hV with ⟨rfl, rfl, rfl⟩ | ⟨a, rfl, hle, hmx, hkv⟩
  · have hr := run_append_nil (P := Try.prog) W 53 ty 56 i0 _ Try.underlying53 hi hz0 ad 1 c _ (by rw [hz1]; rfl) hnews (by omega) (by omega) (by rw [hz2]; omega)
    obtain ⟨l1, S1, s, h1, h2, h3, h4, h5, h6⟩ := fin 0 (by simp) (by simp)
    refine ⟨l1, _, _, S1, s, ?_, h1, by have := grownCap_ge W 1 0 56; rw [h2]; exact this, by rw [h2]; exact grownCap_le_maxLen W 1 0 _ (by decide), h3, h4, h5, h6⟩
    rw [h2]
    simpa [cellsOf, Value.cells] using hr
  · have hol := cellsOf_length S
    have hr := run_append_grow (P := Try.prog) W 53 ty 56 i0 _ Try.underlying53 hi hz0 ⟨a, 0, none⟩ n n (cellsOf S) (by rw [hol, hz1, hfull]) (fun j v hv => by
        rw [Addr.add_lit, Nat.zero_add]
        have h1 := hkv.arr
        have h2 := World.cell?_of_block (w := w) (w' := W) (a := ⟨a, j, none⟩) (hw.block a h1.lt)
        rw [h2, h1.cell, List.getElem?_toArray]; exact hv) ad 1 c _ (by rw [hz1]; rfl) hnews (by omega) (by omega) (growslice_fits (by omega) (by rw [hz2]; omega))
    obtain ⟨l1, S1, s, h1, h2, h3, h4, h5, h6⟩ := fin n hkv.slot hkv.ids
    have hgc := grownCap_ge W (n + 1) n 56
    refine ⟨l1, _, _, S1, s, ?_, h1, by omega, by rw [h2]; exact grownCap_le_maxLen W (n + 1) n _ (by unfold maxLen; omega), h3, h4, h5, h6⟩
    rw [h2, ← hfull]
    simpa [Value.cells] using hr
theorem Bf.nil_of {l : Nat → Nat} {w : World} {z : Nat} {v : Value} {xs : List Int} (h : Bf l w z v xs) (hv : v.ownBlock = none) : v = .slice none 0 0 ∧ xs = [] := by
  rcases h.1.2 with ⟨rfl, hn⟩ | ⟨g, cap, cur, rfl, _⟩
  · exact ⟨rfl, List.eq_nil_of_length_eq_zero hn⟩
  · cases hv
theorem Bf.some_of {l : Nat → Nat} {w : World} {z : Nat} {v : Value} {xs : List Int} (h : Bf l w z v xs) (hv : v.ownBlock ≠ none) : ∃ g c, v = .slice (some ⟨g, 0, none⟩) xs.length c := by
  rcases h.1.2 with ⟨rfl, hn⟩ | ⟨g, cap, cur, rfl, _⟩
  · exact absurd rfl hv
  · exact ⟨g, cap, rfl⟩
theorem get_some {S : List Slot} {n : Nat} (h : n < S.length) : ∃ s, S[n]? = some s := ⟨S[n], by rw [List.getElem?_eq_getElem h]⟩
set_option maxHeartbeats 1000000 in
set_option maxRecDepth 100000 in
theorem allocArg_room (l : Nat → Nat) (w : World) (z a n : Nat) (S : List Slot) (h : Kv l w z a S) (hlt : n < S.length) (hmx : S.length ≤ maxLen) (hn : n ≤ 1099511627776) :
    Calls Try.prog 102 #[.slice (some ⟨a, 0, none⟩) n S.length] w fun e w' => ∃ l1 S1 s, e = .returned (.tuple #[.slice (some ⟨a, 0, none⟩) (n + 1) S1.length, .pointer (some ⟨a, n * 3, none⟩)]) ∧
      Kv l1 w' z a S1 ∧ S1.length = S.length ∧ S1.take n = S.take n ∧ S1[n]? = some s ∧ s.v.ownBlock ≠ none ∧ Stp (Zn z) l l1 w w' := by
  obtain ⟨s, hs⟩ := get_some hlt
  obtain ⟨c0, c1, c2⟩ := h.cell hs
  have hb := (h.row hs).2
  have q1 : (n : Int) < (S.length : Int) := by omega
  have q2 : (n : Int) + 1 ≤ (S.length : Int) := by omega
  have q3 : n + 1 ≤ S.length := by omega
  have f1 := h.free (n * 3 + 1)
  by_cases hv : s.v.ownBlock = none
  · obtain ⟨hv0, hx0⟩ := hb.nil_of hv
    rw [hv0] at c1
    have heq := fun W : World => Lib.run_eql_slice_nil (P := Try.prog) W 54 5 none 0 0 0 0 Try.underlying54
    obtain ⟨W, hW⟩ : ∃ W, w.alloc (.cells #[] 5) = W := ⟨_, rfl⟩
    have hlz : vLab z s.id % 64 = z := by have := h.hz; unfold vLab; omega
    have st : Stp (· = vLab z s.id) l (ext l w.heap.size (vLab z s.id)) w W := by rw [← hW]; exact Stp.of_below ((Below.refl _ _).alloc (Nat.le_refl _) _) _ _ _
    have hbn : Bf (ext l w.heap.size (vLab z s.id)) W (vLab z s.id) (.slice (some ⟨w.heap.size, 0, none⟩) 0 0) [] := by
      refine ⟨⟨rfl, .inr ⟨w.heap.size, 0, #[], rfl, Nat.zero_le _, by rw [← hW]; exact heap_alloc_new w _, Nat.le_refl _, Nat.zero_le _, rfl, rfl⟩⟩, fun b e => ?_⟩
      obtain rfl : w.heap.size = b := Option.some.inj e
      exact ext_new l (Nat.le_refl _)
    have hfin := h.storeV hs hbn st
    have fz : W.frozen? ⟨a, n * 3 + 1, none⟩ = false := by
      have h1 := h.arr.keep st (fun e => by have := h.hz; unfold vLab at e; omega)
      exact h1.free _
    have cz : W.cell? ⟨a, n * 3 + 1, none⟩ = some (.slice none 0 0) := by
      have h1 := h.arr.keep st (fun e => by have := h.hz; unfold vLab at e; omega)
      rw [h1.cell, List.getElem?_toArray, cellsOf_at S n s hs 1 (by omega)]
      simp [Slot.cells, hv0]
    have hset : (S.set n { s with v := .slice (some ⟨w.heap.size, 0, none⟩) 0 0, vx := [] })[n]? = some { s with v := .slice (some ⟨w.heap.size, 0, none⟩) 0 0, vx := [] } := by rw [List.getElem?_set, if_pos rfl, if_pos hlt]
    have htk : (S.set n { s with v := .slice (some ⟨w.heap.size, 0, none⟩) 0 0, vx := [] }).take n = S.take n := by rw [List.take_set_of_le (Nat.le_refl _)]
    have hlen : (S.set n { s with v := .slice (some ⟨w.heap.size, 0, none⟩) 0 0, vx := [] }).length = S.length := List.length_set
    have HFIN := Lib.hid hfin
    have HSET := Lib.hid hset
    have HTK := Lib.hid htk
    have HLEN := Lib.hid hlen
    obtain ⟨N, hN⟩ : ∃ N, S.length = N := ⟨_, rfl⟩
    rw [hN] at q1 q2 q3 hmx hlt ⊢
    have HN := Lib.hid hN
    have HW := Lib.hid hW
    rw [← hW] at fz cz
    clear hN hs hb hv hv0 hx0 h st hbn hfin hset htk hlen hlz hW
    go_enter Try.func102, Try.ntmps102
    go_wp2
    go_ret2
    rw [HW.out]
    exact ⟨_, _, _, (by rw [HLEN.out, HN.out]; rfl), HFIN.out.1, (by rw [HLEN.out, HN.out]), HTK.out, HSET.out, (fun e => by cases e), HFIN.out.2⟩
  · obtain ⟨g, c, hv0⟩ := hb.some_of hv
    rw [hv0] at c1
    have H := Lib.hid h
    have HS := Lib.hid hs
    have HV := Lib.hid hv
    obtain ⟨M, hM⟩ : ∃ M, s.vx.length = M := ⟨_, rfl⟩
    have heq := fun W : World => Lib.run_eql_slice_nil (P := Try.prog) W 54 5 (some ⟨g, 0, none⟩) M c 0 0 Try.underlying54
    obtain ⟨N, hN⟩ : ∃ N, S.length = N := ⟨_, rfl⟩
    rw [hN] at q1 q2 q3 hmx hlt ⊢
    rw [hM] at c1
    have HN := Lib.hid hN
    clear hN hM hs hb hv hv0 h
    go_enter Try.func102, Try.ntmps102
    go_wp2
    go_ret2
    exact ⟨l, S, s, (by rw [HN.out]; rfl), H.out, HN.out, rfl, HS.out, HV.out, Stp.refl _ _ _⟩
set_option maxHeartbeats 1000000 in
set_option maxRecDepth 100000 in
theorem allocArg_full (l : Nat → Nat) (w : World) (z n : Nat) (V : Value) (S : List Slot) (h : KvS l w z V n S) (hfull : n = S.length) (hn : n ≤ 1099511627776) :
    Calls Try.prog 102 #[V] w fun e w' => ∃ l1 a S1 s, e = .returned (.tuple #[.slice (some ⟨a, 0, none⟩) (n + 1) S1.length, .pointer (some ⟨a, n * 3, none⟩)]) ∧
      Kv l1 w' z a S1 ∧ n < S1.length ∧ S1.length ≤ maxLen ∧ S1.take n = S ∧ S1[n]? = some s ∧ s.v.ownBlock ≠ none ∧ Stp (Zn z) l l1 w w' := by
  have hinfo : (Try.prog.info? 56).map (fun i => (i.zero, i.size, i.bytes)) = some (some (.agg zarr), 3, 56) := by kernel_rfl
  obtain ⟨W1, hW1⟩ : ∃ W, w.alloc (.cells #[] 5) = W := ⟨_, rfl⟩
  obtain ⟨W2, hW2⟩ : ∃ W, W1.alloc (.cells #[.slice none 0 0, .slice (some ⟨w.heap.size, 0, none⟩) 0 0, .bool false] 56) = W := ⟨_, rfl⟩
  have hb1 : Below w.heap.size w W1 := by rw [← hW1]; exact (Below.refl _ _).alloc (Nat.le_refl _) _
  have hs1 : W1.heap.size = w.heap.size + 1 := by rw [← hW1]; simp
  have hb2 : Below w.heap.size w W2 := by rw [← hW2]; exact hb1.alloc (by omega) _
  have hg : W2.heap[w.heap.size]? = some (.cells #[] 5 (0, 0)) := by rw [← hW2]; exact blk_alloc (by rw [← hW1]; exact heap_alloc_new w _) _
  have hn2 : W2.heap[w.heap.size + 1]? = some (.cells #[.slice none 0 0, .slice (some ⟨w.heap.size, 0, none⟩) 0 0, .bool false] 56 (0, 0)) := by rw [← hW2, ← hs1]; exact heap_alloc_new W1 _
  obtain ⟨l1, w1, a, S1, s, hr, hkv, hlt, hmx, htk, hs, hnn, hst⟩ := run_grow_kv (W := W2) 53 ⟨w.heap.size + 1, 0, none⟩ 1 hinfo h hfull hn hb2 (Nat.le_refl _) hg (by rw [Addr.add_lit, cell_of_row W2 _ _ _ _ (0, 0) hn2]; rfl) (by rw [Addr.add_lit, cell_of_row W2 _ _ _ _ (0, 0) hn2]; rfl) (by rw [Addr.add_lit, cell_of_row W2 _ _ _ _ (0, 0) hn2]; rfl)
  have HR := Lib.hid hr
  have HK := Lib.hid hkv
  have HS := Lib.hid hs
  have HT := Lib.hid hst
  have HTK := Lib.hid htk
  have hcap : ∃ A, V = .slice A n n := by
    obtain ⟨_, _, ⟨rfl, _, rfl⟩ | ⟨a0, rfl, _⟩⟩ := h
    · exact ⟨none, rfl⟩
    · exact ⟨some ⟨a0, 0, none⟩, by rw [← hfull]⟩
  obtain ⟨A, rfl⟩ := hcap
  obtain ⟨N, hN⟩ : ∃ N, S1.length = N := ⟨_, rfl⟩
  rw [hN] at hlt hmx
  have HN := Lib.hid hN
  have q1 : ¬ ((n : Int) < (n : Int)) := by omega
  have HW1 := Lib.hid hW1
  have HW2 := Lib.hid hW2
  have HHS := Lib.hid hs1
  have q2 : n < N := hlt
  clear hN hr hkv hs hst htk hg hn2 hb1 hb2 hs1 h hfull hinfo hW1 hW2
  go_enter Try.func102, Try.ntmps102
  go_wp2_with (at_builtin; refine app_run rfl (.tmp 30) (.tmp 33) 53 53 rfl _ _ _ rfl rfl (by rw [HW1.out, HW2.out]; exact HR.out) ?_)
  repeat (go_quiet (fail); try go_wp2)
  go_ret2
  have hd := fun m => Stp.of_below_same (pw_below_drewN (Below.refl w1.heap.size w1) m) (Zn z) l1
  exact ⟨l1, a, S1, s, rfl, HK.out.keep (F := fun _ => False) (Stp.of_below_same (pw_below_drewN (Below.refl w1.heap.size w1) _) _ _) (fun _ k => k.elim), by rw [HN.out]; exact q2, by rw [HN.out]; exact hmx, HTK.out, HS.out, hnn, HT.out.trans (hd _)⟩
theorem allocArg_calls (l : Nat → Nat) (w : World) (z n : Nat) (V : Value) (S : List Slot) (h : KvS l w z V n S) (hn : n ≤ 1099511627776) :
    Calls Try.prog 102 #[V] w fun e w' => ∃ l1 a S1 s, e = .returned (.tuple #[.slice (some ⟨a, 0, none⟩) (n + 1) S1.length, .pointer (some ⟨a, n * 3, none⟩)]) ∧
      Kv l1 w' z a S1 ∧ n < S1.length ∧ S1.length ≤ maxLen ∧ S1.take n = S.take n ∧ S1[n]? = some s ∧ s.v.ownBlock ≠ none ∧ Stp (Zn z) l l1 w w' := by
  have h0 := h
  obtain ⟨hz, hnn, h1⟩ := h
  by_cases hfull : n = S.length
  · refine (allocArg_full l w z n V S h0 hfull hn).mono ?_
    rintro e w' ⟨l1, a, S1, s, q1, q2, q3, q4, q5, q6⟩
    exact ⟨l1, a, S1, s, q1, q2, q3, q4, by rw [q5, hfull, List.take_length], q6⟩
  · obtain ⟨_, rfl, rfl⟩ | ⟨a, rfl, hle, hmx, hkv⟩ := h1
    · exact absurd rfl hfull
    · refine (allocArg_room l w z a n S hkv (by omega) hmx hn).mono ?_
      rintro e w' ⟨l1, S1, s, q1, q2, q3, q4, q5, q6, q7⟩
      exact ⟨l1, a, S1, s, q1, q2, by omega, by omega, q4, q5, q6, q7⟩
end Go.Proofs.Ytoimkmoalmmooaa.Own
set_option linter.unusedVariables false
set_option linter.unusedSimpArgs false
namespace Go.Proofs.Ytoimkmoalmmooaa.Own
open Go.RowKit Go.Proofs.YtoimkmoalmmooaaW.PrintWords Go.Proofs.YtoimkmoalmmooaaW.PrintLast Go.Proofs.YtoimkmoalmmooaaW.PrintMore Go.Proofs.Ytoimkmoalmmooaa.Base Go.Proofs.Ytoimkmoalmmooaa.Gv
def Src (F : Nat → Prop) (l : Nat → Nat) (w : World) (A : Option Addr) (m : Nat) (xs : List Int) : Prop := ∀ l1 w1, Stp F l l1 w w1 → ReadsInt w1 .u8 A m xs
theorem Src.now {F : Nat → Prop} {l : Nat → Nat} {w : World} {A : Option Addr} {m : Nat} {xs : List Int} (h : Src F l w A m xs) : ReadsInt w .u8 A m xs := h l w (Stp.refl _ _ _)
theorem Src.step {F : Nat → Prop} {l l1 : Nat → Nat} {w w1 : World} {A : Option Addr} {m : Nat} {xs : List Int} (h : Src F l w A m xs) (s : Stp F l l1 w w1) : Src F l1 w1 A m xs := fun l2 w2 k => h l2 w2 (s.trans k)
theorem Src.of_bf {F : Nat → Prop} {l : Nat → Nat} {w : World} {z : Nat} {A : Option Addr} {m c : Nat} {xs : List Int} (h : Bf l w z (.slice A m c) xs) (hz : ¬ F z) : m = xs.length ∧ Src F l w A xs.length xs :=
  ⟨h.cut0.1, fun l1 w1 s => (h.keep s hz).reads⟩
theorem Src.of_read {F : Nat → Prop} {l : Nat → Nat} {w : World} {A : Option Addr} {m : Nat} {xs : List Int} (h : ReadsInt w .u8 A m xs) (ha : ∀ a, A = some a → a.block < w.heap.size ∧ ¬ F (l a.block)) : Src F l w A m xs := fun l1 w1 s =>
  ⟨h.1, h.2.1, fun h0 => by
    obtain ⟨a, e, hc⟩ := h.2.2 h0
    obtain ⟨h1, h2⟩ := ha a e
    refine ⟨a, e, fun j hj => ?_⟩
    have hb := s.block a.block h1 h2
    have : w1.cell? (a.add j) = w.cell? (a.add j) := World.cell?_of_block (by rw [show (a.add j).block = a.block by unfold Addr.add; split <;> rfl]; exact hb)
    rw [this]
    exact hc j hj⟩
theorem cutz (A : Option Addr) (n c : Nat) (W : World) : (Instr.slice 54 (.slice A n c) none (some (.int .i64 0)) none).run Try.prog W = .ok (.slice A 0 c) W := by
  have hel : Try.prog.elem 54 = 5 := by simp [Program.elem, Try.underlying54]
  have hu : Try.prog.underlying 54 = some (.slice (Try.prog.elem 54)) := by rw [hel]; exact Try.underlying54
  have ha : (A.map fun x => x.add 0) = A := by cases A <;> simp [Addr.add]
  have := run_slice_h W 54 A n c hu .i64 0 (by omega) (by omega)
  simpa [hel, ha, sliced] using this
theorem info8 : (Try.prog.info? 5).map (fun i => (i.zero, i.size, i.bytes)) = some (some (.int .u8 0), 1, 1) := by kernel_rfl
theorem Kv.at (l : Nat → Nat) {w : World} {z a : Nat} {S : List Slot} (h : Kv l w z a S) {i : Nat} {s : Slot} (hs : S[i]? = some s) :
    (∃ A n c, s.k = .slice A n c ∧ w.cell? ⟨a, i * 3, none⟩ = some (.slice A n c) ∧ Bf l w (kLab z s.id) (.slice A 0 c) []) ∧ (∃ A n c, s.v = .slice A n c ∧ w.cell? ⟨a, i * 3 + 1, none⟩ = some (.slice A n c) ∧ Bf l w (vLab z s.id) (.slice A 0 c) []) ∧ w.cell? ⟨a, i * 3 + 2, none⟩ = some (.bool s.no) ∧
    w.frozen? ⟨a, i * 3, none⟩ = false ∧ w.frozen? ⟨a, i * 3 + 1, none⟩ = false ∧ w.frozen? ⟨a, i * 3 + 2, none⟩ = false := by
  obtain ⟨c0, c1, c2⟩ := h.cell hs
  obtain ⟨hk, hv⟩ := h.row hs
  obtain ⟨A, c, e, _, hb⟩ := hk.cut 0 (Nat.zero_le _)
  obtain ⟨A2, c', e', _, hb'⟩ := hv.cut 0 (Nat.zero_le _)
  exact ⟨⟨A, _, c, e, by rw [c0, e], by simpa using hb⟩, ⟨A2, _, c', e', by rw [c1, e'], by simpa using hb'⟩, c2, h.free _, h.free _, h.free _⟩
theorem Kv.cells_keep {l l1 : Nat → Nat} {w w1 : World} {z a : Nat} {S : List Slot} (h : Kv l w z a S) {lab : Nat} (st : Stp (· = lab) l l1 w w1) (hl : lab ≠ z) (o : Nat) : w1.cell? ⟨a, o, none⟩ = w.cell? ⟨a, o, none⟩ ∧ w1.frozen? ⟨a, o, none⟩ = false := by
  have h1 := h.arr.keep st (fun e => hl e.symm)
  exact ⟨by rw [h1.cell, h.arr.cell], h1.free o⟩
theorem kLab_ne {z id : Nat} (hz : z < 64) : kLab z id ≠ z := by unfold kLab; omega
theorem vLab_ne {z id : Nat} (hz : z < 64) : vLab z id ≠ z := by unfold vLab; omega
theorem kLab_zn {z id : Nat} (hz : z < 64) : kLab z id % 64 = z := by unfold kLab; omega
theorem vLab_zn {z id : Nat} (hz : z < 64) : vLab z id % 64 = z := by unfold vLab; omega
theorem Stp.zone {l l1 : Nat → Nat} {w w1 : World} {z lab : Nat} (h : Stp (· = lab) l l1 w w1) (hl : lab % 64 = z) : Stp (Zn z) l l1 w w1 := h.mono (fun x e => by subst e; exact hl)
theorem take_set_snoc {S0 S1 : List Slot} {n : Nat} (ht : S1.take n = S0.take n) (hlt : n < S1.length) (s : Slot) : kvs (S1.set n s) (n + 1) = kvs S0 n ++ [⟨s.kx, s.vx, s.no⟩] := by
  unfold kvs
  have e : (S1.set n s).take (n + 1) = S0.take n ++ [s] := by
    rw [List.take_add_one, List.take_set_of_le (Nat.le_refl _), ht, List.getElem?_set, if_pos rfl, if_pos hlt]
    rfl
  rw [e, List.map_append]
  rfl
theorem nn_set {S0 S1 : List Slot} {n : Nat} (h0 : ∀ s ∈ S0.take n, s.v.ownBlock ≠ none) (ht : S1.take n = S0.take n) (hlt : n < S1.length) (s : Slot) (hs : s.v.ownBlock ≠ none) : ∀ t ∈ (S1.set n s).take (n + 1), t.v.ownBlock ≠ none := by
  have e : (S1.set n s).take (n + 1) = S0.take n ++ [s] := by
    rw [List.take_add_one, List.take_set_of_le (Nat.le_refl _), ht, List.getElem?_set, if_pos rfl, if_pos hlt]
    rfl
  rw [e]
  intro t h
  rcases List.mem_append.1 h with h | h
  · exact h0 t h
  · rw [List.mem_singleton.1 h]; exact hs
theorem set_set_at {S : List Slot} {n : Nat} (s t : Slot) : (S.set n s).set n t = S.set n t := List.set_set ..
theorem get_set {S : List Slot} {n : Nat} {s0 s : Slot} (h : S[n]? = some s0) : (S.set n s)[n]? = some s := by
  have : n < S.length := (List.getElem?_eq_some_iff.1 h).1
  rw [List.getElem?_set, if_pos rfl, if_pos this]
end Go.Proofs.Ytoimkmoalmmooaa.Own
namespace Go.Proofs.Ytoimkmoalmmooaa.QA
open Go.Proofs.Ytoimkmoalmmooaa.Given
open Go.Proofs.Ytoimkmoalmmooaa.PrX
open Go.RowKit Go.Proofs.YtoimkmoalmmooaaW.PrintWords Go.Proofs.YtoimkmoalmmooaaW.PrintLast Go.Proofs.YtoimkmoalmmooaaW.PrintMore
set_option linter.unusedVariables false
set_option linter.unusedSimpArgs false
def bytes_Equal.f (l0 : List Int) (l1 : List Int) : Option (Bool) := some ((strOfNums l0).toList == (strOfNums l1).toList)
set_option maxHeartbeats 8000000 in
set_option maxRecDepth 100000 in
theorem bytes_Equal.calls (A0 : Option Addr) (c0 : Nat) (l0 : List Int) (A1 : Option Addr) (c1 : Nat) (l1 : List Int) (r : Bool) (w : World) (hr0 : Kd.C (Kd.int .u8) w A0 l0.length l0) (hc0 : l0.length ≤ c0) (hr1 : Kd.C (Kd.int .u8) w A1 l1.length l1) (hc1 : l1.length ≤ c1) (h : bytes_Equal.f l0 l1 = some r) :
    Calls Try.prog 99 #[.slice A0 l0.length c0, .slice A1 l1.length c1] w fun e w' => e = .returned (.bool r) ∧ Drawn0 w w' := by
  have HR0 := Aside0.mk hr0
  have HC0 := Aside0.mk hc0
  clear hr0 hc0
  have HR1 := Aside0.mk hr1
  have HC1 := Aside0.mk hc1
  clear hr1 hc1
  have H : (some ((strOfNums l0).toList == (strOfNums l1).toList)) = some r := h
  clear h
  obtain rfl := Option.some.inj H
  have hcv3 := Kd.C_string (P := Try.prog) (A := A0) (c := c0) Try.underlying54 Try.underlying5 Try.underlying9 HR0.out
  have hcv4 := Kd.C_string (P := Try.prog) (A := A1) (c := c1) Try.underlying54 Try.underlying5 Try.underlying9 HR1.out
  go_enter Try.func99, Try.ntmps99
  go_wp2
  go_ret
  exact ⟨by first | rfl | (simp; done) | (rw [prx_ne]; first | done | rfl) | (simp [*]; done), by repeat (first | exact Drawn0.refl _ | apply Drawn0.step)⟩
def impl_pairs.l0 : Nat → List (S34) → List (S96) → Int → Int → Option ((List (S34)))
  | 0, _, _, _, _ => none
  | k + 1, x3, x6, x7, x8 => if x8 < x7 then (if 0 ≤ x8 then (if x8 < (x6.length : Int) then (if x3.length < 4398046511104 then (impl_pairs.l0 k (x3 ++ [(⟨(rd_T96 x6 x8).f0, (rd_T96 x6 x8).f1⟩ : S34)]) x6 x7 (wrap64 (x8 + 1))) else (none)) else (none)) else (none)) else (some x3)
def impl_pairs.f (k : Nat) (l0 : List (S96)) : Option ((List (S34))) := impl_pairs.l0 k ([] : List (S34)) l0 (l0.length : Int) 0
set_option maxHeartbeats 8000000 in
set_option maxRecDepth 100000 in
theorem impl_pairs.calls (k : Nat) (A0 : Option Addr) (c0 : Nat) (l0 : List (S96)) (r : List (S34)) (w : World) (hr0 : Kd.C k96 w A0 l0.length l0) (hc0 : l0.length ≤ c0) (h : impl_pairs.f k l0 = some r) :
    Calls Try.prog 47 #[.slice A0 l0.length c0] w fun e w' => ∃ v0_ : Value, e = .returned (v0_) ∧ Kd.R k34 34 w' w.heap.size (fun _ => True) v0_ r ∧ Below w.heap.size w w' := by
  have hu96 := Try.underlying96
  have HR0 := Aside0.mk hr0
  have HC0 := Aside0.mk hc0
  clear hr0 hc0
  have HB := Aside0.mk (Below.refl w.heap.size w)
  have H : (impl_pairs.l0 k ([] : List (S34)) l0 (l0.length : Int) 0) = some r := h
  clear h
  have H' := Aside0.mk H
  clear H
  go_enter Try.func47, Try.ntmps47
  go_wp2
  go_loopg [3, 8] k (fun kq v3 v8 w' => ∃ (x3_1 : List (S34)) (x8_1 : Int), v8 = .int .i64 x8_1 ∧ Aside0 (impl_pairs.l0 kq x3_1 l0 (l0.length : Int) x8_1 = some r) ∧ Aside0 (kq ≤ k) ∧ Aside0 (Kd.R k34 34 w' w.heap.size (fun _ => True) v3 x3_1) ∧ Aside0 (Below w.heap.size w w'))
  case atStart => exact ⟨(([] : List (S34))), (0), (by first | rfl | (simp; done) | (rw [prx_ne]; first | done | rfl) | (simp [*]; done)), H', ⟨Nat.le_refl _⟩, ⟨by first | exact Kd.R_nil _ _ _ _ _ | exact Kd.N_nil _ _ _ _ _ | exact Kd.V_nil _ _ _ _ _ | exact Kd.Q_nil _ _ _ _ _ | exact Kd.S_nil _ _ _ _ _⟩, ⟨by repeat (first | (with_reducible first | exact HB.out | apply below_alloc | apply pw_below_drewN | apply below_drew1) | exact HB.out)⟩⟩
  case round =>
    clear H'
    obtain ⟨x3_1, x8_1, rfl, HA, HK1, HO_3, HB⟩ := hrel
    cases gk with
    | zero => exact absurd HA.out (by simp [impl_pairs.l0])
    | succ k1 =>
      have H := HA.out
      clear HA
      simp only [impl_pairs.l0] at H
      by_cases c2 : x8_1 < (l0.length : Int)
      · rw [if_pos c2] at H
        have c2b0 : decide (x8_1 < (l0.length : Int)) = true := decide_eq_true c2
        clear c2
        by_cases c3 : 0 ≤ x8_1
        · rw [if_pos c3] at H
          have c3b0 : decide (0 ≤ x8_1) = true := decide_eq_true c3
          clear c3
          by_cases c4 : x8_1 < (l0.length : Int)
          · rw [if_pos c4] at H
            have c4b0 : decide (x8_1 < (l0.length : Int)) = true := decide_eq_true c4
            clear c4
            by_cases c5 : x3_1.length < 4398046511104
            · rw [if_pos c5] at H
              have LMc5 := Aside0.mk c5
              clear c5
              obtain ⟨y259, hy259⟩ : ∃ y_ : List (S34), y_ = (x3_1 ++ [(⟨(rd_T96 l0 x8_1).f0, (rd_T96 l0 x8_1).f1⟩ : S34)]) := ⟨_, rfl⟩
              replace H : (impl_pairs.l0 k1 y259 l0 (l0.length : Int) (wrap64 (x8_1 + 1))) = some r := by first | (rw [hy259]; with_reducible exact H) | (have H2_ := (Option.bind_some _ _).symm.trans H; rw [hy259]; with_reducible exact H2_) | (have H2_ := (Option.bind_some _ _).symm.trans H; with_reducible exact H2_) | with_reducible exact H | (rw [hy259]; exact H) | exact H
              have Ny259 := Aside0.mk hy259
              clear hy259
              have H' := Aside0.mk H
              clear H
              have p257 : 0 ≤ (x8_1 : Int) := of_decide_eq_true (by first | (with_reducible assumption) | assumption)
              have q257 : x8_1 < (l0.length : Int) := of_decide_eq_true (by first | (with_reducible assumption) | assumption)
              obtain ⟨ad257, e257, hx257_0, hx257_1⟩ := at_T96 HR0.out x8_1 p257 q257
              cases e257
              replace hx257_0 := (HB.out.cell (World.block_lt_of_cell? w _ hx257_0)).trans hx257_0
              replace hx257_1 := (HB.out.cell (World.block_lt_of_cell? w _ hx257_1)).trans hx257_1
              replace p257 := eq_true p257
              replace q257 := eq_true q257
              go_wp2_with (first | ((with_reducible refine gate_dst (N := 5) rfl ?_); refine box_event ?hg (N := 5) ?hd (cs := #[.string (⟨#[]⟩ : ByteArray), .string (⟨#[]⟩ : ByteArray)]) (t := 96) ?hr ?_; (case hd => rfl); (case hg => rfl); (case hr => first | (go_simp; done) | (go_simp; rfl)); intro gb258 hg w6 hbox hb; have n0_ := Aside0.mk (Kd.R_below (by (with_reducible repeat (first | apply Kd.R_alloc | apply Kd.R_drewN | apply Kd.R_drew)); exact HO_3.out) hb); have n1_ := Aside0.mk (below_step (by repeat (first | (with_reducible first | exact HB.out | apply below_alloc | apply pw_below_drewN | apply below_drew1) | exact HB.out)) hb); have n2_ := Aside0.mk (hbox); have n3_ := Aside0.mk ((by rw [hg]; exact (below_size (by repeat (first | (with_reducible first | exact HB.out | apply below_alloc | apply pw_below_drewN | apply below_drew1) | exact HB.out))) : w.heap.size ≤ gb258)); have n4_ := Aside0.mk ((by rw [hg]; exact (below_size (by repeat (first | (with_reducible first | exact HB.out | apply below_alloc | apply pw_below_drewN | apply below_drew1) | exact HB.out))) : w.heap.size ≤ gb258)); clear HO_3; clear HB; have HO_3 := n0_; have HB := n1_; have BK258 := n2_; have GW258 := n3_; have GE258 := n4_; clear n0_ n1_ n2_ n3_ n4_; clear hb hbox hg; have hcz7_0 : w6.cell? ⟨gb258, 0, none⟩ = some (.string (⟨#[]⟩ : ByteArray)) := (blk_cell BK258.out 0).trans rfl; have hcz7_1 : w6.cell? ⟨gb258, 1, none⟩ = some (.string (⟨#[]⟩ : ByteArray)) := (blk_cell BK258.out 1).trans rfl; have hfz7_0 := blk_frozen BK258.out 0; have hfz7_1 := blk_frozen BK258.out 1) | ((with_reducible refine gate_builtin (b := .append) (xs := #[.tmp 12, .tmp 14]) rfl ?_); at_builtin; refine Kd.R_append k34 (w0 := w) w.heap.size rfl (.tmp 12) (.tmp 14) 30 34 (.agg #[(.string ⟨#[]⟩), (.string ⟨#[]⟩)]) 32 rfl Try.underlying30 info34 rfl (by decide) (by omega) u3 x3_1 (⟨(rd_T96 l0 x8_1).f0, (rd_T96 l0 x8_1).f1⟩ : S34) [.string ((rd_T96 l0 x8_1).f0), .string ((rd_T96 l0 x8_1).f1)] (fun _ => True) (fun _ => False) rfl (by first | (go_simp; done) | (go_simp; rfl)) ?aP (fun _ hk => hk.elim) ?aF ?aO ?aB ?aS ?aL ?_; (case aP => exact k34_mkM _ _ _ (⟨(rd_T96 l0 x8_1).f0, (rd_T96 l0 x8_1).f1⟩ : S34)); (case aB => exact (by repeat (first | (with_reducible first | exact HB.out | apply below_alloc | apply pw_below_drewN | apply below_drew1 | refine below_set ?_ GE258.out) | exact HB.out))); (case aF => exact (fun _ _ => trivial)); (case aO => exact (by (with_reducible repeat (first | apply Kd.R_alloc | apply Kd.R_drewN | apply Kd.R_drew)); exact Kd.R_mono (Kd.R_far (p := ⟨gb258, 1, none⟩) (Kd.R_far (p := ⟨gb258, 0, none⟩) (Kd.R_types HO_3.out BK258.out (by decide)) (fun _ hk => hk.2) (.string ((rd_T96 l0 x8_1).f0))) (fun _ hk => hk.2) (.string ((rd_T96 l0 x8_1).f1))) (fun _ hk => trivial))); (case aS => exact (below_size (by repeat (first | (with_reducible first | exact HB.out | apply below_alloc | apply pw_below_drewN | apply below_drew1 | refine below_set ?_ GE258.out) | exact HB.out)))); (case aL => have := LMc5.out; omega); intro v260 w8 ho hb hg hat; rw [← Ny259.out] at ho; have n0_ := Aside0.mk (blk_grown (g := gb258) (o := .cells #[.string ((rd_T96 l0 x8_1).f0), .string ((rd_T96 l0 x8_1).f1)] 96 (0, 0)) (by (with_reducible repeat (first | refine blk_drewN ?_ _ | refine blk_drew ?_ | refine blk_alloc ?_ _)); refine blk_put (cs := #[.string ((rd_T96 l0 x8_1).f0), .string (⟨#[]⟩ : ByteArray)]) ?_ 1 _ rfl; (with_reducible repeat (first | refine blk_drewN ?_ _ | refine blk_drew ?_ | refine blk_alloc ?_ _)); refine blk_put (cs := #[.string (⟨#[]⟩ : ByteArray), .string (⟨#[]⟩ : ByteArray)]) ?_ 0 _ rfl; (with_reducible repeat (first | refine blk_drewN ?_ _ | refine blk_drew ?_ | refine blk_alloc ?_ _)); exact BK258.out) hg (Kd.R_ne HO_3.out BK258.out (by decide))); have n1_ := Aside0.mk (hb); have n2_ := Aside0.mk (ho); clear BK258; clear HB; clear HO_3; have BK258 := n0_; have HB := n1_; have HO261 := n2_; clear n0_ n1_ n2_; clear ho hb hg hat))
              go_roundg k1
              case measure => have := HK1.out; omega
              case rel => exact ⟨(y259), (wrap64 (x8_1 + 1)), (by first | rfl | (simp; done) | (rw [prx_ne]; first | done | rfl) | (simp [*]; done)), H', ⟨by have := HK1.out; omega⟩, ⟨by (with_reducible repeat (first | apply Kd.R_alloc | apply Kd.R_drewN | apply Kd.R_drew)); exact HO261.out⟩, ⟨by repeat (first | (with_reducible first | exact HB.out | apply below_alloc | apply pw_below_drewN | apply below_drew1 | refine below_set ?_ GE258.out) | exact HB.out)⟩⟩
            · rw [if_neg c5] at H
              exact absurd H (by simp)
          · rw [if_neg c4] at H
            exact absurd H (by simp)
        · rw [if_neg c3] at H
          exact absurd H (by simp)
      · rw [if_neg c2] at H
        have c2b0 : decide (x8_1 < (l0.length : Int)) = false := decide_eq_false c2
        clear c2
        obtain rfl := Option.some.inj H
        go_wp2
        go_ret
        exact ⟨_, by first | rfl | (simp [errW_none, errW_some] <;> rfl) | (simp [*, errW_none, errW_some] <;> rfl), by (with_reducible repeat (first | apply Kd.R_alloc | apply Kd.R_drewN | apply Kd.R_drew)); exact HO_3.out, by repeat (first | (with_reducible first | exact HB.out | apply below_alloc | apply pw_below_drewN | apply below_drew1) | exact HB.out)⟩
end Go.Proofs.Ytoimkmoalmmooaa.QA
set_option linter.unusedVariables false
set_option linter.unusedSimpArgs false
namespace Go.Proofs.Ytoimkmoalmmooaa.Own
open Go.RowKit Go.Proofs.YtoimkmoalmmooaaW.PrintWords Go.Proofs.YtoimkmoalmmooaaW.PrintLast Go.Proofs.YtoimkmoalmmooaaW.PrintMore Go.Proofs.Ytoimkmoalmmooaa.Base Go.Proofs.Ytoimkmoalmmooaa.Gv Go.Proofs.Ytoimkmoalmmooaa.QA
def eqB (xs ys : List Int) : Bool := (strOfNums xs).toList == (strOfNums ys).toList
theorem equal_calls (W : World) (A B : Option Addr) (c d : Nat) (xs ys : List Int) (hx : ReadsInt W .u8 A xs.length xs) (hc : xs.length ≤ c) (hy : ReadsInt W .u8 B ys.length ys) (hd : ys.length ≤ d) :
    Calls Try.prog 99 #[.slice A xs.length c, .slice B ys.length d] W fun e w' => e = .returned (.bool (eqB xs ys)) ∧ ∃ m, w' = W.drewN m := by
  refine (bytes_Equal.calls A c xs B d ys (eqB xs ys) W (Kd.C_of_reads (d := (0 : Int)) (h1 := fun _ => rfl) hx) hc (Kd.C_of_reads (d := (0 : Int)) (h1 := fun _ => rfl) hy) hd rfl).mono ?_
  rintro e w' ⟨rfl, ⟨m, rfl⟩⟩
  exact ⟨rfl, m, rfl⟩
theorem drew_stp (F : Nat → Prop) (l : Nat → Nat) (w : World) (m : Nat) : Stp F l l w (w.drewN m) := Stp.of_below_same (pw_below_drewN (Below.refl _ _) m) F l
theorem Kv.drewN {l : Nat → Nat} {w : World} {z a : Nat} {S : List Slot} (h : Kv l w z a S) (m : Nat) : Kv l (w.drewN m) z a S := h.keep (drew_stp (fun _ => False) l w m) (fun _ k => k.elim)
theorem Bf.drewN {l : Nat → Nat} {w : World} {z : Nat} {v : Value} {xs : List Int} (h : Bf l w z v xs) (m : Nat) : Bf l (w.drewN m) z v xs := h.keep (drew_stp (fun _ => False) l w m) (fun k => k)
theorem Src.drewN {F : Nat → Prop} {l : Nat → Nat} {w : World} {A : Option Addr} {m : Nat} {xs : List Int} (h : Src F l w A m xs) (k : Nat) : Src F l (w.drewN k) A m xs := h.step (drew_stp F l w k)
theorem Kv.look {l : Nat → Nat} {w : World} {z a : Nat} {S : List Slot} (h : Kv l w z a S) {i : Nat} {s : Slot} (hs : S[i]? = some s) :
    (∃ A c, s.k = .slice A s.kx.length c ∧ w.cell? ⟨a, i * 3, none⟩ = some (.slice A s.kx.length c) ∧ s.kx.length ≤ c ∧ ReadsInt w .u8 A s.kx.length s.kx) ∧
    (∃ A c, s.v = .slice A s.vx.length c ∧ w.cell? ⟨a, i * 3 + 1, none⟩ = some (.slice A s.vx.length c) ∧ s.vx.length ≤ c ∧ ReadsInt w .u8 A s.vx.length s.vx) ∧ w.cell? ⟨a, i * 3 + 2, none⟩ = some (.bool s.no) := by
  obtain ⟨c0, c1, c2⟩ := h.cell hs
  obtain ⟨hk, hv⟩ := h.row hs
  obtain ⟨A, c, e, hc⟩ := hk.slice
  obtain ⟨B, d, e', hd⟩ := hv.slice
  have r1 := hk
  have r2 := hv
  rw [e] at r1
  rw [e'] at r2
  exact ⟨⟨A, c, e, by rw [c0, e], hc, r1.reads⟩, ⟨B, d, e', by rw [c1, e'], hd, r2.reads⟩, c2⟩
def setKV (k v : List Int) : List KVx → List KVx
  | [] => [⟨k, v, false⟩]
  | x :: t => if eqB k x.k = true then ⟨x.k, v, false⟩ :: t else x :: setKV k v t
theorem setKV_hit (k v : List Int) : ∀ (l : List KVx) (i : Nat) (x : KVx), l[i]? = some x → eqB k x.k = true → (∀ (j : Nat) (y : KVx), j < i → l[j]? = some y → eqB k y.k = false) → setKV k v l = l.set i ⟨x.k, v, false⟩
  | [], i, x, h, _, _ => by simp at h
  | y :: t, 0, x, h, he, _ => by
    simp only [List.getElem?_cons_zero, Option.some.injEq] at h
    subst h
    simp [setKV, he]
  | y :: t, i + 1, x, h, he, hn => by
    have h0 := hn 0 y (by omega) rfl
    have ih := setKV_hit k v t i x (by simpa using h) he (fun j z hj hz => hn (j + 1) z (by omega) (by simpa using hz))
    simp [setKV, h0, ih]
theorem setKV_miss (k v : List Int) : ∀ (l : List KVx), (∀ (j : Nat) (y : KVx), l[j]? = some y → eqB k y.k = false) → setKV k v l = l ++ [⟨k, v, false⟩]
  | [], _ => rfl
  | y :: t, hn => by
    have h0 := hn 0 y rfl
    have ih := setKV_miss k v t (fun j z hz => hn (j + 1) z (by simpa using hz))
    simp [setKV, h0, ih]
def updKV (k v : List Int) : List KVx → List KVx
  | [] => []
  | x :: t => if x.no = true ∧ eqB k x.k = true then ⟨x.k, v, false⟩ :: t else x :: updKV k v t
theorem updKV_hit (k v : List Int) : ∀ (l : List KVx) (i : Nat) (x : KVx), l[i]? = some x → (x.no = true ∧ eqB k x.k = true) → (∀ (j : Nat) (y : KVx), j < i → l[j]? = some y → ¬ (y.no = true ∧ eqB k y.k = true)) → updKV k v l = l.set i ⟨x.k, v, false⟩
  | [], i, x, h, _, _ => by simp at h
  | y :: t, 0, x, h, he, _ => by
    simp only [List.getElem?_cons_zero, Option.some.injEq] at h
    subst h
    simp [updKV, he]
  | y :: t, i + 1, x, h, he, hn => by
    have h0 := hn 0 y (by omega) rfl
    have ih := updKV_hit k v t i x (by simpa using h) he (fun j z hj hz => hn (j + 1) z (by omega) (by simpa using hz))
    rw [updKV, if_neg h0, ih]
    rfl
theorem updKV_miss (k v : List Int) : ∀ (l : List KVx), (∀ (j : Nat) (y : KVx), l[j]? = some y → ¬ (y.no = true ∧ eqB k y.k = true)) → updKV k v l = l
  | [], _ => rfl
  | y :: t, hn => by
    have h0 := hn 0 y rfl
    have ih := updKV_miss k v t (fun j z hz => hn (j + 1) z (by simpa using hz))
    rw [updKV, if_neg h0, ih]
def getKV (k : List Int) : List KVx → Option (List Int)
  | [] => none
  | x :: t => if eqB x.k k = true then some x.v else getKV k t
theorem getKV_hit (k : List Int) : ∀ (l : List KVx) (i : Nat) (x : KVx), l[i]? = some x → eqB x.k k = true → (∀ (j : Nat) (y : KVx), j < i → l[j]? = some y → eqB y.k k = false) → getKV k l = some x.v
  | [], i, x, h, _, _ => by simp at h
  | y :: t, 0, x, h, he, _ => by
    simp only [List.getElem?_cons_zero, Option.some.injEq] at h
    subst h
    simp [getKV, he]
  | y :: t, i + 1, x, h, he, hn => by
    have h0 := hn 0 y (by omega) rfl
    have ih := getKV_hit k t i x (by simpa using h) he (fun j z hj hz => hn (j + 1) z (by omega) (by simpa using hz))
    simp [getKV, h0, ih]
theorem getKV_miss (k : List Int) : ∀ (l : List KVx), (∀ (j : Nat) (y : KVx), l[j]? = some y → eqB y.k k = false) → getKV k l = none
  | [], _ => rfl
  | y :: t, hn => by
    have h0 := hn 0 y rfl
    have ih := getKV_miss k t (fun j z hz => hn (j + 1) z (by simpa using hz))
    simp [getKV, h0, ih]
theorem nn_set_at {S : List Slot} {n i : Nat} (h0 : ∀ s ∈ S.take n, s.v.ownBlock ≠ none) (s : Slot) (hs : s.v.ownBlock ≠ none) : ∀ t ∈ (S.set i s).take n, t.v.ownBlock ≠ none := by
  intro t ht
  rw [List.take_set] at ht
  rcases List.mem_or_eq_of_mem_set ht with h | rfl
  · exact h0 t h
  · exact hs
theorem nn_at {S : List Slot} {n i : Nat} {s : Slot} (h0 : ∀ s ∈ S.take n, s.v.ownBlock ≠ none) (hs : S[i]? = some s) (hi : i < n) : s.v.ownBlock ≠ none :=
  h0 s (List.mem_of_getElem? (i := i) (by rw [List.getElem?_take, if_pos hi]; exact hs))
theorem kvs_get {S : List Slot} {n j : Nat} {y : KVx} (h : (kvs S n)[j]? = some y) : ∃ s, S[j]? = some s ∧ j < n ∧ y = ⟨s.kx, s.vx, s.no⟩ := by
  unfold kvs at h
  rw [List.getElem?_map, List.getElem?_take] at h
  split at h
  · rename_i hj
    cases hs : S[j]? with
    | none => rw [hs] at h; cases h
    | some s => rw [hs] at h; exact ⟨s, rfl, hj, (Option.some.inj h).symm⟩
  · cases h
end Go.Proofs.Ytoimkmoalmmooaa.Own
set_option linter.unusedVariables false
set_option linter.unusedSimpArgs false
namespace Go.Proofs.Ytoimkmoalmmooaa.Own
open Go.RowKit Go.Proofs.YtoimkmoalmmooaaW.PrintWords Go.Proofs.YtoimkmoalmmooaaW.PrintLast Go.Proofs.YtoimkmoalmmooaaW.PrintMore Go.Proofs.Ytoimkmoalmmooaa.Base Go.Proofs.Ytoimkmoalmmooaa.Gv
set_option maxHeartbeats 2000000 in
set_option maxRecDepth 100000 in
theorem appendArgBytes_false (l : Nat → Nat) (w : World) (z n : Nat) (V : Value) (S : List Slot) (h : KvS l w z V n S) (hn : n ≤ 1099511627775) (A : Option Addr) (m c : Nat) (kx : List Int) (hks : m ≤ 140737488355328) (hk : Src (Zn z) l w A m kx) (B : Option Addr) (m' c' : Nat) (vx : List Int) (hvs : m' ≤ 140737488355328) (hv : Src (Zn z) l w B m' vx) :
    Calls Try.prog 74 #[V, .slice A m c, .slice B m' c', .bool false] w fun e w' => ∃ l1 V1 S1, e = .returned V1 ∧ KvS l1 w' z V1 (n + 1) S1 ∧ kvs S1 (n + 1) = kvs S n ++ [⟨kx, vx, false⟩] ∧ Stp (Zn z) l l1 w w' := by
  have hz := h.1
  have HNN := Lib.hid h.2.1
  have HA := Lib.hid (allocArg_calls l w z n V S h (by omega))
  have hcz := cutz
  have HSK := Lib.hid hk
  have HSV := Lib.hid hv
  clear hk hv
  clear h
  go_enter Try.func74, Try.ntmps74
  go_wp2_with (first
    | (go_at_call 102
       refine HA.out.mono ?_
       rintro e w1 ⟨l1, a, S1, s, rfl, k1, k2, k3, k4, k5, k6, k7⟩
       obtain ⟨⟨A1, n1, c1, e1, z0, b1⟩, ⟨A2, n2, c2, e2, z1, b2⟩, z2, f0, f1, f2⟩ := k1.at (l := l1) k5
       have K1 := Lib.hid k1
       have K2' := Lib.hid k2
       have K3 := Lib.hid k3
       have K4 := Lib.hid k4
       have K5 := Lib.hid k5
       have K6 := Lib.hid k6
       have K7 := Lib.hid k7
       have B1 := Lib.hid b1
       clear k1 k2 k3 k4 k5 k6 k7 b1 b2 e1 e2)
    | (at_builtin
       refine app_row (kLab z s.id) rfl (.tmp 20) (.tmp 21) 54 rfl Try.underlying54 info8 _ [] kx A m c rfl rfl B1.out (HSK.out.step K7.out).now (by simp; omega) ?_
       intro v1 w2 l2 hB2 st2 hn2
       rw [List.nil_append] at hB2
       obtain ⟨vA, vc, rfl, _⟩ := hB2.slice
       obtain ⟨y0, g0⟩ := K1.out.cells_keep st2 (kLab_ne hz) (n * 3)
       rw [z0] at y0
       have K2 := Lib.hid (K1.out.storeK K5.out hB2 st2)
       obtain ⟨⟨A3, n3, c3, e3, x0, b3⟩, ⟨A4, n4, c4, e4, x1, b4⟩, x2, h0, h1, h2⟩ := K2.out.1.at l2 (get_set K5.out)
       have B4 := Lib.hid b4
       have E4 := Lib.hid e4
       clear hB2 hn2 st2 e3 b3 e4 b4)
    | (at_builtin
       refine app_row (vLab z s.id) rfl (.tmp 39) (.tmp 40) 54 rfl Try.underlying54 info8 _ [] vx B m' c' rfl rfl B4.out ((HSV.out.step K7.out).step K2.out.2).now (by simp; omega) ?_
       intro v2 w3 l3 hB3 st3 hn3
       rw [List.nil_append] at hB3
       obtain ⟨uA, uc, rfl, _⟩ := hB3.slice
       obtain ⟨y1, g1⟩ := K2.out.1.cells_keep st3 (vLab_ne hz) (n * 3 + 1)
       rw [x1] at y1
       have K8 := Lib.hid (K2.out.1.storeV (get_set K5.out) hB3 st3)
       have N3 := Lib.hid hn3
       obtain ⟨⟨A5, n5, c5, e5, u0, b5⟩, ⟨A6, n6, c6, e6, u1, b6⟩, u2, j0, j1, j2⟩ := K8.out.1.at l3 (get_set (get_set K5.out))
       have K9 := Lib.hid (K8.out.1.storeN (get_set (get_set K5.out)) false)
       clear hB3 st3 hn3 e5 b5 e6 b6))
  go_ret
  have K10 := K9.out
  rw [set_set_at, set_set_at] at K10
  refine ⟨_, _, rfl, _, ⟨hz, nn_set HNN.out K4.out K2'.out _ ?_, .inr ⟨a, by rw [List.length_set]; rfl, by rw [List.length_set]; exact K2'.out, by rw [List.length_set]; exact K3.out, K10.1⟩⟩, take_set_snoc K4.out K2'.out _, ((K7.out.trans K2.out.2).trans K8.out.2).trans K10.2⟩
  exact N3.out (by
    have h1 := K6.out
    have h2 : s.v = _ := E4.out
    rw [h2] at h1
    cases A4 with
    | none => exact absurd rfl h1
    | some q => exact fun e => by cases e)
set_option maxHeartbeats 2000000 in
set_option maxRecDepth 100000 in
theorem appendArgBytes_true (l : Nat → Nat) (w : World) (z n : Nat) (V : Value) (S : List Slot) (h : KvS l w z V n S) (hn : n ≤ 1099511627775) (A : Option Addr) (m c : Nat) (kx : List Int) (hks : m ≤ 140737488355328) (hk : Src (Zn z) l w A m kx) (B : Option Addr) (m' c' : Nat) (vx : List Int) :
    Calls Try.prog 74 #[V, .slice A m c, .slice B m' c', .bool true] w fun e w' => ∃ l1 V1 S1, e = .returned V1 ∧ KvS l1 w' z V1 (n + 1) S1 ∧ kvs S1 (n + 1) = kvs S n ++ [⟨kx, [], true⟩] ∧ Stp (Zn z) l l1 w w' := by
  have hz := h.1
  have HNN := Lib.hid h.2.1
  have HA := Lib.hid (allocArg_calls l w z n V S h (by omega))
  have hcz := cutz
  have HSK := Lib.hid hk
  clear hk
  clear h
  go_enter Try.func74, Try.ntmps74
  go_wp2_with (first
    | (go_at_call 102
       refine HA.out.mono ?_
       rintro e w1 ⟨l1, a, S1, s, rfl, k1, k2, k3, k4, k5, k6, k7⟩
       obtain ⟨⟨A1, n1, c1, e1, z0, b1⟩, ⟨A2, n2, c2, e2, z1, b2⟩, z2, f0, f1, f2⟩ := k1.at (l := l1) k5
       have K1 := Lib.hid k1
       have K2' := Lib.hid k2
       have K3 := Lib.hid k3
       have K4 := Lib.hid k4
       have K5 := Lib.hid k5
       have K6 := Lib.hid k6
       have K7 := Lib.hid k7
       have B1 := Lib.hid b1
       clear k1 k2 k3 k4 k5 k6 k7 b1 b2 e1 e2)
    | (at_builtin
       refine app_row (kLab z s.id) rfl (.tmp 20) (.tmp 21) 54 rfl Try.underlying54 info8 _ [] kx A m c rfl rfl B1.out (HSK.out.step K7.out).now (by simp; omega) ?_
       intro v1 w2 l2 hB2 st2 hn2
       rw [List.nil_append] at hB2
       obtain ⟨vA, vc, rfl, _⟩ := hB2.slice
       obtain ⟨y0, g0⟩ := K1.out.cells_keep st2 (kLab_ne hz) (n * 3)
       rw [z0] at y0
       have K2 := Lib.hid (K1.out.storeK K5.out hB2 st2)
       obtain ⟨⟨A3, n3, c3, e3, x0, b3⟩, ⟨A4, n4, c4, e4, x1, b4⟩, x2, h0, h1, h2⟩ := K2.out.1.at l2 (get_set K5.out)
       have B4 := Lib.hid b4
       have E4 := Lib.hid e4
       have K8 := Lib.hid (K2.out.1.storeV (get_set K5.out) b4 (Stp.refl _ _ _))
       obtain ⟨⟨A5, n5, c5, e5, u0, b5⟩, ⟨A6, n6, c6, e6, u1, b6⟩, u2, j0, j1, j2⟩ := K8.out.1.at l2 (get_set (get_set K5.out))
       have K9 := Lib.hid (K8.out.1.storeN (get_set (get_set K5.out)) true)
       clear e5 b5 e6 b6
       clear hB2 hn2 st2 e3 b3 e4 b4))
  go_ret
  have K10 := K9.out
  rw [set_set_at, set_set_at] at K10
  refine ⟨_, _, rfl, _, ⟨hz, nn_set HNN.out K4.out K2'.out _ ?_, .inr ⟨a, by rw [List.length_set]; rfl, by rw [List.length_set]; exact K2'.out, by rw [List.length_set]; exact K3.out, K10.1⟩⟩, take_set_snoc K4.out K2'.out _, ((K7.out.trans K2.out.2).trans K8.out.2).trans K10.2⟩
  exact (by
    have h1 := K6.out
    have h2 : s.v = _ := E4.out
    rw [h2] at h1
    cases A4 with
    | none => exact absurd rfl h1
    | some q => exact fun e => by cases e)
end Go.Proofs.Ytoimkmoalmmooaa.Own
