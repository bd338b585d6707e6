/- Texts of this claim, one behind the other (merged by wip/prune.py of this repo, without what the proof does not use): WWords, PrX, WApart, WShare, WN, WRepsOne, WInv, WMore. -/
import Derived.Test.YtgmjaggkiifdjaaDoorZW1
import Derived.ArgAppend
import Derived.Below
import Derived.BigQuiet
import Derived.Deep.AppendLies
import Derived.Deep.CutBlock
import Derived.Deep.DeepCutAuto
import Derived.Deep.Draws
import Derived.Deep.LoopGhost
import Derived.Deep.OwnRows
import Derived.Deep.QuietTactic
import Derived.Deep.RegionHeld3
import Derived.KernelRfl
import Derived.Laws.BytesArg
import Derived.Laws.IdiomCopy
import Derived.Laws.MakeOwn
import Derived.Laws.OwnMore
import Derived.Laws.Rows
import Derived.Laws.Slices
import Derived.Lib.AppendStr
import Derived.Lib.ConvBytes
import Derived.Maps.AppendAt
import Derived.OwnWalk
import Derived.RowKit
import Derived.RowKit3
import Derived.Tactics
import Derived.WalkKit
import Derived.WideLaws
set_option linter.unusedVariables false
set_option linter.unusedSimpArgs false
namespace Go.Proofs.YtgmjaggkiifdjaaDoorW.PrintWords
open Go.RowKit
structure Aside0 (p : Prop) : Prop where mk :: (out : p)
structure Drawn0 (w w' : World) : Prop where mk :: (out : ∃ n, w' = w.drewN n)
theorem Drawn0.refl (w : World) : Drawn0 w w := ⟨⟨0, rfl⟩⟩
theorem Drawn0.step {w w' : World} (h : Drawn0 w w') (n : Nat) : Drawn0 w (w'.drewN n) := by
  obtain ⟨m, rfl⟩ := h
  exact ⟨⟨m + n, World.drewN_drewN ..⟩⟩
def rd (xs : List Int) (i : Int) : Int := xs.getD i.toNat 0
def bt (s : ByteArray) (i : Int) : Int := if h : i.toNat < s.size then ((s[i.toNat]'h).toNat : Int) else 0
theorem bt_at (s : ByteArray) (i : Int) : ∀ h : i.toNat < s.size, ((s[i.toNat]'h).toNat : Int) = bt s i := fun h => by simp [bt, h]
theorem below_alloc {w W : World} (h : Below w.heap.size w W) (o : Obj) : Below w.heap.size w (W.alloc o) := h.alloc h.size o
theorem pw_below_drewN {B : Nat} {w W : World} (h : Below B w W) (n : Nat) : Below B w (W.drewN n) := ⟨h.os, h.tape, h.output, h.size, h.block⟩
theorem below_then {B : Nat} {w w1 w2 : World} (h : Below B w w1) (hB : B ≤ w1.heap.size) (k : Below w1.heap.size w1 w2) : Below B w w2 :=
  h.trans ⟨k.os, k.tape, k.output, k.size, fun i hi => k.block i (Nat.lt_of_lt_of_le hi hB)⟩
theorem pw_cell_below {w w1 : World} (h : Below w.heap.size w w1) {a : Addr} {v : Value} (hc : w.cell? a = some v) : w1.cell? a = some v := (h.cell (World.block_lt_of_cell? w a hc)).trans hc
theorem add_plain (g j : Nat) : (⟨g, 0, none⟩ : Addr).add j = ⟨g, j, none⟩ := by unfold Addr.add; split <;> simp_all
def ReadsInt (w : World) (k : IntKind) (A : Option Addr) (n : Nat) (xs : List Int) : Prop :=
  xs.length = n ∧ n ≤ 9223372036854775807 ∧ (0 < n → ∃ ad, A = some ad ∧ ∀ j, j < n → w.cell? (ad.add j) = some (.int k (xs.getD j 0)))
theorem ReadsInt.at_ {w : World} {k : IntKind} {A : Option Addr} {n : Nat} {xs : List Int} (h : ReadsInt w k A n xs) (i : Int) (h0 : 0 ≤ i) (h1 : i < n) : ∃ ad, A = some ad ∧ w.cell? (ad.add i.toNat) = some (.int k (rd xs i)) := by
  obtain ⟨ad, e, hc⟩ := h.2.2 (by omega)
  exact ⟨ad, e, hc _ (by omega)⟩
theorem ReadsInt.below {w w1 : World} {k : IntKind} {A : Option Addr} {n : Nat} {xs : List Int} (h : ReadsInt w k A n xs) (hb : Below w.heap.size w w1) : ReadsInt w1 k A n xs :=
  ⟨h.1, h.2.1, fun hn => by
    obtain ⟨ad, e, hc⟩ := h.2.2 hn
    exact ⟨ad, e, fun j hj => pw_cell_below hb (hc j hj)⟩⟩
theorem own_nil (W : World) (base : Nat) (e : TypeId) (size : Nat) : W.ownsRow base e size (.slice none 0 0) 0 [] := ⟨by simp, .inl ⟨rfl, rfl⟩⟩
theorem own_base {w : World} {base : Nat} {e : TypeId} {size n : Nat} {v : Value} {xs : List Value} (h : w.ownsRow base e size v n xs) (k : Nat) (hk : v.ownBlock = some k) : base ≤ k := by
  rcases h.2 with ⟨rfl, _⟩ | ⟨g, cap, cur, rfl, hb, _⟩
  · simp [Value.ownBlock] at hk
  · have : g = k := by simpa [Value.ownBlock] using hk
    omega
theorem own_slice {w : World} {base n : Nat} {e : TypeId} {size : Nat} {v : Value} {xs : List Value} (h : w.ownsRow base e size v n xs) : ∃ A c, v = .slice A n c := by
  rcases h.2 with ⟨rfl, rfl⟩ | ⟨g, cap, cur, rfl, _⟩
  · exact ⟨none, 0, rfl⟩
  · exact ⟨_, cap, rfl⟩
section
variable {P : Program} {ops : Array Oper} {rest : List Oper} {o : Oper} {a : Act} {Q : Exit → Act → World → Prop}
end
section
variable {P : Program}
end
section
variable {P : Program} {ops : Array Oper} {rest : List Oper} {o : Oper} {a : Act} {Q : Exit → Act → World → Prop}
end
theorem ReadsInt.take_ {w : World} {k : IntKind} {A : Option Addr} {n : Nat} {xs : List Int} (h : ReadsInt w k A n xs) (i : Nat) (hi : i ≤ n) : ReadsInt w k A i (xs.take i) := by
  refine ⟨by rw [List.length_take, h.1]; omega, by have := h.2.1; omega, fun hp => ?_⟩
  obtain ⟨ad, e, hc⟩ := h.2.2 (by omega)
  refine ⟨ad, e, fun j hj => ?_⟩
  rw [hc j (by omega)]
  simp [List.getD_eq_getElem?_getD, hj]
theorem ReadsInt.drop_ {w : World} {k : IntKind} {A : Option Addr} {n c : Nat} {xs : List Int} (h : ReadsInt w k A n xs) (i : Nat) (hi : i ≤ n) (hc : n ≤ c) : ReadsInt w k (if c = i then A else A.map (·.add i)) (n - i) (xs.drop i) := by
  refine ⟨by rw [List.length_drop, h.1], by have := h.2.1; omega, fun hp => ?_⟩
  obtain ⟨ad, rfl, hcell⟩ := h.2.2 (by omega)
  rw [if_neg (by omega)]
  refine ⟨ad.add i, rfl, fun j hj => ?_⟩
  have ha : (ad.add i).add j = ad.add (i + j) := by
    unfold Addr.add
    by_cases h1 : i = 0 <;> by_cases h2 : j = 0 <;> simp [h1, h2, Nat.add_assoc]
  rw [ha, hcell (i + j) (by omega)]
  simp [List.getD_eq_getElem?_getD, List.getElem?_drop]
def Reps {α : Type} (R : α → List Value → Prop) (size : Nat) (ps : List α) (cs : List Value) : Prop :=
  cs.length = ps.length * size ∧ ∀ j p, ps[j]? = some p → R p ((cs.drop (j * size)).take size)
theorem Reps.none {α : Type} (R : α → List Value → Prop) (size : Nat) : Reps R size [] [] := ⟨by simp, fun j p h => by simp at h⟩
theorem Reps.snoc {α : Type} {R : α → List Value → Prop} {size : Nat} {ps : List α} {cs c : List Value} {p : α} (h : Reps R size ps cs) (hp : R p c) (hc : c.length = size) : Reps R size (ps ++ [p]) (cs ++ c) := by
  refine ⟨by rw [List.length_append, h.1, hc, List.length_append, List.length_singleton, Nat.add_mul, Nat.one_mul], fun j q hq => ?_⟩
  rcases Nat.lt_or_ge j ps.length with hj | hj
  · rw [List.getElem?_append_left hj] at hq
    have h1 : j * size + size ≤ cs.length := by rw [h.1, ← Nat.succ_mul]; exact Nat.mul_le_mul_right _ hj
    have h2 := h.2 j q hq
    rw [List.drop_append_of_le_length (by omega), List.take_append_of_le_length (by rw [List.length_drop]; omega)]
    exact h2
  · have hj' : j = ps.length := by
      have := (List.getElem?_eq_some_iff.1 hq).1
      rw [List.length_append, List.length_singleton] at this
      omega
    subst hj'
    have hq' : p = q := by simpa using hq
    subst hq'
    rw [← h.1, List.drop_left, ← hc, List.take_length]
    exact hp
theorem Reps.imp_ {α : Type} {R R' : α → List Value → Prop} {size : Nat} {ps : List α} {cs : List Value} (h : Reps R size ps cs) (hR : ∀ p c, R p c → R' p c) : Reps R' size ps cs := ⟨h.1, fun j p hj => hR _ _ (h.2 j p hj)⟩
def ReadsRow {α : Type} (R : α → List Value → Prop) (size : Nat) (w : World) (A : Option Addr) (n : Nat) (ps : List α) : Prop :=
  ps.length = n ∧ n ≤ 9223372036854775807 ∧ (0 < n → ∃ ad, A = some ad ∧ ∀ j p, ps[j]? = some p → ∃ c, c.length = size ∧ R p c ∧ ∀ i u, c[i]? = some u → w.cell? (ad.add (j * size + i)) = some u)
theorem ReadsRow.imp_ {α : Type} {R R' : α → List Value → Prop} {size : Nat} {w w1 : World} {A : Option Addr} {n : Nat} {ps : List α} (h : ReadsRow R size w A n ps) (hb : Below w.heap.size w w1) (hR : ∀ p c, R p c → R' p c) : ReadsRow R' size w1 A n ps :=
  ⟨h.1, h.2.1, fun hn => by
    obtain ⟨ad, e, hc⟩ := h.2.2 hn
    refine ⟨ad, e, fun j p hj => ?_⟩
    obtain ⟨c, hs, hr, hcell⟩ := hc j p hj
    exact ⟨c, hs, hR _ _ hr, fun i u hu => pw_cell_below hb (hcell i u hu)⟩⟩
theorem own_reads_row {α : Type} {R : α → List Value → Prop} {w : World} {base n size : Nat} {e : TypeId} {v : Value} {ps : List α} {cs : List Value} (h : w.ownsRow base e size v n cs) (hR : Reps R size ps cs) (hn : ps.length = n) :
    ∃ A c, v = .slice A n c ∧ ReadsRow R size w A n ps := by
  rcases Nat.eq_zero_or_pos n with h0 | h0
  · rcases h.2 with ⟨rfl, rfl⟩ | ⟨g, cap, cur, rfl, _⟩
    · exact ⟨none, 0, rfl, hn, by omega, fun hp => absurd hp (by omega)⟩
    · exact ⟨_, cap, rfl, hn, by omega, fun hp => absurd hp (by omega)⟩
  · obtain ⟨g, cap, rfl, _, _⟩ := h.form h0
    have hm : n ≤ 9223372036854775807 := by
      rcases h.2 with ⟨_, h1⟩ | ⟨g', cap', cur, he, _, _, h1, h2, _⟩
      · omega
      · simp only [maxLen] at h2
        omega
    refine ⟨_, cap, rfl, hn, hm, fun _ => ⟨_, rfl, fun j p hj => ⟨(cs.drop (j * size)).take size, ?_, hR.2 j p hj, fun i u hu => ?_⟩⟩⟩
    · have hjl := (List.getElem?_eq_some_iff.1 hj).1
      have h1 : j * size + size ≤ cs.length := by rw [hR.1, ← Nat.succ_mul]; exact Nat.mul_le_mul_right _ hjl
      rw [List.length_take, List.length_drop]
      omega
    · refine h.cells (g := g) rfl _ u ?_
      rw [List.getElem?_take] at hu
      split at hu
      · rw [List.getElem?_drop] at hu
        exact hu
      · cases hu
section
variable {P : Program} {ops : Array Oper} {rest : List Oper} {o : Oper} {a : Act} {Q : Exit → Act → World → Prop}
theorem print_append_cells {w0 W : World} (base : Nat) (hgd : o.guard = none) (s x : Operand) (t e : TypeId) (z : Value) (size bytes : Nat)
    (ho : o.op = .call { callee := .builtin .append, args := #[s, x], argTypes := #[t, t] })
    (ht : P.underlying t = some (.slice e)) (hinfo : (P.info? e).map (fun i => (i.zero, i.size, i.bytes)) = some (some z, size, bytes)) (hz : z.cells.size = size) (hs0 : 0 < size) (hb0 : 0 < bytes)
    (v : Value) (n : Nat) (xs ys : List Value) (hs : a.eval s = v) (hx : a.eval x = .slice (some ⟨W.heap.size, 0, none⟩) 1 1) (hys : ys.length = size) (h1 : ∀ u ∈ ys, u.oneCell' = true)
    (HO : W.ownsRow base e size v n xs) (HB : Below base w0 W) (hbase : base ≤ W.heap.size) (hl : (n + 1) * bytes ≤ 140737488355328)
    (h : ∀ v1 w1, w1.ownsRow base e size v1 (n + 1) (xs ++ ys) → Below base w0 w1 → W.grownBy w1 v.ownBlock → (v1.ownBlock = v.ownBlock ∨ ∃ b, v1.ownBlock = some b ∧ W.heap.size ≤ b) → wpList P ops Q rest (a.put o.dst v1) w1) :
    wpList P ops Q (o :: rest) a (W.alloc (.cells ys.toArray e)) := by
  obtain ⟨i0, hi, hzz⟩ := Option.map_eq_some_iff.1 hinfo
  simp only [Prod.mk.injEq] at hzz
  obtain ⟨hz0, hz1, hz2⟩ := hzz
  have hlen : n + 1 ≤ 140737488355328 := Nat.le_trans (Nat.le_mul_of_pos_right _ hb0) hl
  refine wpList_append_own_at (W.alloc (.cells ys.toArray e)) hgd s x t ho base e i0 z size bytes ht hi hz0 hz1 hz2 hz hs0 v n xs hs (HO.alloc _) ⟨W.heap.size, 0, none⟩ 1 1 ys hx (by rw [hys]; simp)
    (by simpa using World.news_of_block (cs := ys.toArray) (t := e) (fr := (0, 0)) (heap_alloc_new W (.cells ys.toArray e))) h1 (by simp only [maxLen]; omega) hl (by simp; omega) ?_
  intro v1 w1 hown hg _ hat
  refine h v1 w1 hown ((HB.alloc hbase _).grown hg (by simp; omega) (own_base HO)) (World.grownBy.trans (World.grownBy_alloc W _ _) hg) ?_
  rcases hat with hat | hat
  · exact .inl hat
  · exact .inr ⟨_, hat, by simp⟩
end
theorem blk_lt {w : World} {g : Nat} {o : Obj} (h : w.heap[g]? = some o) : g < w.heap.size := (Array.getElem?_eq_some_iff.1 h).1
def KeepBut (w w' : World) (g : Nat) (row : Option Nat) : Prop := w.heap.size ≤ w'.heap.size ∧ ∀ i, i < w.heap.size → i ≠ g → some i ≠ row → w'.heap[i]? = w.heap[i]?
theorem KeepBut.refl (w : World) (g : Nat) (row : Option Nat) : KeepBut w w g row := ⟨Nat.le_refl _, fun _ _ _ _ => rfl⟩
theorem KeepBut.of_grown {w w1 : World} {row : Option Nat} (h : w.grownBy w1 row) (g : Nat) : KeepBut w w1 g row := ⟨h.size, fun i hi _ hr => h.block i hi hr⟩
theorem KeepBut.of_below {w w1 : World} (h : Below w.heap.size w w1) (g : Nat) (row : Option Nat) : KeepBut w w1 g row := ⟨h.size, fun i hi _ _ => h.block i hi⟩
theorem KeepBut.set_ {w w1 : World} {g : Nat} {row : Option Nat} (h : KeepBut w w1 g row) (j : Nat) (u : Value) : KeepBut w (w1.setCell ⟨g, j, none⟩ u) g row :=
  ⟨by simpa [World.setCell] using h.1, fun i hi hg hr => (Below.heap_setCell w1 ⟨g, j, none⟩ u i hg).trans (h.2 i hi hg hr)⟩
theorem KeepBut.trans {w w1 w2 : World} {g : Nat} {row row1 : Option Nat} (h : KeepBut w w1 g row) (k : KeepBut w1 w2 g row1) (hr : row1 = row ∨ ∃ b, row1 = some b ∧ w.heap.size ≤ b) : KeepBut w w2 g row :=
  ⟨Nat.le_trans h.1 k.1, fun i hi hg hn => by
    refine (k.2 i (Nat.lt_of_lt_of_le hi h.1) hg ?_).trans (h.2 i hi hg hn)
    rcases hr with rfl | ⟨b, rfl, hb⟩
    · exact hn
    · intro e
      injection e with e
      omega⟩
theorem KeepBut.blk {w w1 : World} {g g' : Nat} {row : Option Nat} {o : Obj} (h : KeepBut w w1 g row) (hb : w.heap[g']? = some o) (hg : g' ≠ g) (hr : some g' ≠ row) : w1.heap[g']? = some o := (h.2 g' (blk_lt hb) hg hr).trans hb
theorem KeepBut.own {w w1 : World} {g : Nat} {row : Option Nat} {base : Nat} {e : TypeId} {size n : Nat} {v : Value} {xs : List Value} (h : KeepBut w w1 g row) (ho : w.ownsRow base e size v n xs) (hg : v.ownBlock ≠ some g) (hr : v.ownBlock = none ∨ v.ownBlock ≠ row) : w1.ownsRow base e size v n xs := by
  obtain ⟨h1, h2⟩ := ho
  refine ⟨h1, ?_⟩
  rcases h2 with h2 | ⟨b, cap, cur, rfl, hb, hh, r⟩
  · exact .inl h2
  · refine .inr ⟨b, cap, cur, rfl, hb, h.blk hh ?_ ?_, r⟩
    · intro e
      exact hg (by rw [← e]; rfl)
    · rcases hr with hr | hr
      · simp [Value.ownBlock] at hr
      · exact hr
def Ev {α : Type} (g : Nat → Option α) (r : α) : Prop := ∃ K, ∀ k, K ≤ k → g k = some r
theorem Ev.now {α : Type} (r : α) : Ev (fun _ => some r) r := ⟨0, fun _ _ => rfl⟩
theorem Ev.rounds {α : Type} {g : Nat → Option α} {r : α} (h : Ev g r) : ∃ k, g k = some r := by
  obtain ⟨K, h⟩ := h
  exact ⟨K, h K (Nat.le_refl _)⟩
theorem Ev.bind {α β : Type} {g : Nat → Option α} {f : Nat → α → Option β} {a : α} {r : β} (h : Ev g a) (k : Ev (fun n => f n a) r) : Ev (fun n => (g n).bind (f n)) r := by
  obtain ⟨K, h⟩ := h
  obtain ⟨K', k⟩ := k
  refine ⟨max K K', fun n hn => ?_⟩
  have h1 := h n (by omega)
  have h2 := k n (by omega)
  simp only [h1, Option.bind_some]
  exact h2
theorem Ev.step {α : Type} {g f : Nat → Option α} {r : α} (h : ∀ k, g (k + 1) = f k) (k : Ev f r) : Ev g r := by
  obtain ⟨K, k⟩ := k
  refine ⟨K + 1, fun n hn => ?_⟩
  obtain ⟨m, rfl⟩ : ∃ m, n = m + 1 := ⟨n - 1, by omega⟩
  rw [h]
  exact k m (by omega)
theorem Ev.congr {α : Type} {g f : Nat → Option α} {r : α} (h : ∀ k, g k = f k) (k : Ev f r) : Ev g r := by
  obtain ⟨K, k⟩ := k
  exact ⟨K, fun n hn => (h n).trans (k n hn)⟩
section
variable {P : Program} {ops : Array Oper} {o : Oper} {a : Act} {Q : Exit → Act → World → Prop} {K : Act → World → Prop}
end
section
variable {α : Type} {enc : α → Value} {d : α}
def rdOf (d : α) (xs : List α) (i : Int) : α := xs.getD i.toNat d
def ReadsOf (enc : α → Value) (d : α) (w : World) (A : Option Addr) (n : Nat) (xs : List α) : Prop :=
  xs.length = n ∧ n ≤ 9223372036854775807 ∧ (0 < n → ∃ ad, A = some ad ∧ ∀ j, j < n → w.cell? (ad.add j) = some (enc (xs.getD j d)))
theorem ReadsOf.at_ {w : World} {A : Option Addr} {n : Nat} {xs : List α} (h : ReadsOf enc d w A n xs) (i : Int) (h0 : 0 ≤ i) (h1 : i < n) : ∃ ad, A = some ad ∧ w.cell? (ad.add i.toNat) = some (enc (rdOf d xs i)) := by
  obtain ⟨ad, e, hc⟩ := h.2.2 (by omega)
  exact ⟨ad, e, hc _ (by omega)⟩
end
section
variable {α : Type} {P : Program} {ops : Array Oper} {rest : List Oper} {o : Oper} {a : Act} {Q : Exit → Act → World → Prop}
end
theorem blk_alloc {w : World} {g : Nat} {o : Obj} (h : w.heap[g]? = some o) (o' : Obj) : (w.alloc o').heap[g]? = some o := (Below.heap_alloc w o' g (blk_lt h)).trans h
section
variable {P : Program}
end
theorem own_le {w : World} {base n m c size : Nat} {e : TypeId} {A : Option Addr} {xs : List Value} (h : w.ownsRow base e size (.slice A m c) n xs) : m ≤ c := by
  rcases h.2 with ⟨he, _⟩ | ⟨g, cap, cur, he, _, _, hnc, _⟩
  · injection he with _ h2 h3
    omega
  · injection he with _ h2 h3
    omega
def OwnRow {α : Type} (R : α → List Value → Prop) (e : TypeId) (size : Nat) (w : World) (base : Nat) (v : Value) (ps : List α) : Prop :=
  ∃ inner, w.ownsRow base e size v ps.length inner ∧ Reps R size ps inner
section
variable {α : Type} {R R' : α → List Value → Prop} {e : TypeId} {size : Nat} {w w1 : World} {base : Nat} {v : Value} {ps : List α}
theorem OwnRow.none_ (R : α → List Value → Prop) (e : TypeId) (size : Nat) (w : World) (base : Nat) : OwnRow R e size w base (.slice none 0 0) [] := ⟨[], own_nil _ _ _ _, Reps.none _ _⟩
theorem OwnRow.reads (h : OwnRow R e size w base v ps) : ∃ A c, v = .slice A ps.length c ∧ ps.length ≤ c ∧ ReadsRow R size w A ps.length ps := by
  obtain ⟨inner, ho, hr⟩ := h
  obtain ⟨A, c, rfl, hrow⟩ := own_reads_row ho hr rfl
  exact ⟨A, c, rfl, own_le ho, hrow⟩
end
section
variable {P : Program} {ops : Array Oper} {rest : List Oper} {o : Oper} {a : Act} {Q : Exit → Act → World → Prop} {α : Type} {R : α → List Value → Prop}
end
section
variable {P : Program} {ops : Array Oper} {o : Oper} {a : Act} {Q : Exit → Act → World → Prop} {K : Act → World → Prop} {α : Type} {R : α → List Value → Prop}
end
section
variable {α : Type} {P : Program}
end
section
variable {P : Program} {ops : Array Oper} {rest : List Oper} {o : Oper} {a : Act} {Q : Exit → Act → World → Prop}
end
structure Kd (α : Type) where
  sz : Nat
  E : List Nat
  K : World → α → List Value → Prop
  M : World → Nat → (Nat → Prop) → α → List Value → Prop
  K_len : ∀ {w x cs}, K w x cs → cs.length = sz
  K_one : ∀ {w x cs}, K w x cs → ∀ u ∈ cs, u.oneCell' = true
  K_below : ∀ {w w1 : World} {x cs}, Below w.heap.size w w1 → K w x cs → K w1 x cs
  K_of_M : ∀ {w base ok x cs}, M w base ok x cs → K w x cs
  M_mono : ∀ {w base ok ok' x cs}, (∀ k, ok k → ok' k) → M w base ok x cs → M w base ok' x cs
  M_bound : ∀ {w : World} {base ok x cs}, M w base ok x cs → M w base (fun k => ok k ∧ base ≤ k ∧ k < w.heap.size ∧ ∃ q, q ∈ E ∧ ∃ cells, w.heap[k]? = some (.cells cells q (0, 0))) x cs
  M_move : ∀ {w w1 : World} {base ok x cs}, (∀ k, ok k → w1.heap[k]? = w.heap[k]?) → M w base ok x cs → M w1 base ok x cs
  M_lower : ∀ {w base base' ok x cs}, base' ≤ base → M w base ok x cs → M w base' ok x cs
namespace Kd
def C {α : Type} (d : Kd α) (w : World) (A : Option Addr) (n : Nat) (xs : List α) : Prop := ReadsRow (d.K w) d.sz w A n xs
def R {α : Type} (d : Kd α) (e : Nat) (w : World) (base : Nat) (ok : Nat → Prop) (v : Value) (xs : List α) : Prop :=
  (∀ k, v.ownBlock = some k → ok k) ∧ OwnRow (d.M w base (fun k => ok k ∧ some k ≠ v.ownBlock)) e d.sz w base v xs
section
variable {α : Type} {d : Kd α} {e : Nat} {w w1 : World} {base : Nat} {ok ok' : Nat → Prop} {v : Value} {xs : List α}
theorem R_nil (d : Kd α) (e : Nat) (w : World) (base : Nat) (ok : Nat → Prop) : d.R e w base ok (.slice none 0 0) [] := ⟨fun k hk => by simp [Value.ownBlock] at hk, OwnRow.none_ _ _ _ _ _⟩
theorem R_reads (h : d.R e w base ok v xs) : ∃ A c, v = .slice A xs.length c ∧ xs.length ≤ c ∧ d.C w A xs.length xs := by
  obtain ⟨A, c, he, hl, hr⟩ := OwnRow.reads h.2
  exact ⟨A, c, he, hl, hr.imp_ (Below.refl _ _) (fun _ _ hp => d.K_of_M hp)⟩
theorem R_slice (h : d.R e w base ok v xs) : ∃ A c, v = .slice A xs.length c := by
  obtain ⟨A, c, he, _⟩ := R_reads h
  exact ⟨A, c, he⟩
end
def scalar {α : Type} (enc : α → Value) (h1 : ∀ x, (enc x).oneCell' = true) : Kd α where
  sz := 1
  E := []
  K := fun _ x cs => cs = [enc x]
  M := fun _ _ _ x cs => cs = [enc x]
  K_len := fun h => by rw [h]; rfl
  K_one := fun h u hu => by
    rw [h] at hu
    rw [List.mem_singleton.1 hu]
    exact h1 _
  K_below := fun _ h => h
  K_of_M := fun h => h
  M_mono := fun _ h => h
  M_bound := fun h => h
  M_move := fun _ h => h
  M_lower := fun _ h => h
def int (k : IntKind) : Kd Int := scalar (Value.int k) (fun _ => rfl)
def string : Kd ByteArray := scalar Value.string (fun _ => rfl)
def bot {α : Type} (sz : Nat) (E : List Nat) : Kd α where
  sz := sz
  E := E
  K := fun _ _ _ => False
  M := fun _ _ _ _ _ => False
  K_len := fun h => h.elim
  K_one := fun h => h.elim
  K_below := fun _ h => h
  K_of_M := fun h => h
  M_mono := fun _ h => h
  M_bound := fun h => h
  M_move := fun _ h => h
  M_lower := fun _ h => h
def upto {α : Type} (F : Kd α → Kd α) (sz : Nat) (E : List Nat) : Nat → Kd α
  | 0 => bot sz E
  | n + 1 => F (upto F sz E n)
theorem R_appended {α : Type} {d : Kd α} {e base : Nat} {ok okp : Nat → Prop} {W w1 : World} {v v1 : Value} {xs : List α} {p : α} {inner cs : List Value} (h0 : ∀ k, v.ownBlock = some k → ok k) (hr : Reps (d.M W base (fun k => ok k ∧ some k ≠ v.ownBlock)) d.sz xs inner) (hp : d.M W base okp p cs) (hokp : ∀ k, okp k → ok k ∧ some k ≠ v.ownBlock) (hfresh : ∀ k, W.heap.size ≤ k → ok k)
    (hown : w1.ownsRow base e d.sz v1 (xs.length + 1) (inner ++ cs)) (hg : W.grownBy w1 v.ownBlock) (hat : v1.ownBlock = v.ownBlock ∨ ∃ b, v1.ownBlock = some b ∧ W.heap.size ≤ b) : d.R e w1 base ok v1 (xs ++ [p]) := by
  have hne : ∀ k, some k ≠ v.ownBlock → k < W.heap.size → some k ≠ v1.ownBlock := by
    intro k hk hlt
    rcases hat with hat | ⟨b, hb, hle⟩
    · rw [hat]; exact hk
    · rw [hb]
      intro he
      injection he with he
      omega
  have step : ∀ {q : α} {c : List Value} {o : Nat → Prop}, d.M W base o q c → (∀ k, o k → ok k ∧ some k ≠ v.ownBlock) → d.M w1 base (fun k => ok k ∧ some k ≠ v1.ownBlock) q c := by
    intro q c o hq ho
    have h1 := d.M_move (w1 := w1) (fun k hk => hg.block k hk.2.2.1 (ho k hk.1).2) (d.M_bound hq)
    exact d.M_mono (fun k hk => ⟨(ho k hk.1).1, hne k (ho k hk.1).2 hk.2.2.1⟩) h1
  refine ⟨fun k hk => ?_, inner ++ cs, by rw [List.length_append, List.length_singleton]; exact hown, ?_⟩
  · rcases hat with hat | ⟨b, hb, hle⟩
    · exact h0 k (hat ▸ hk)
    · rw [hb] at hk
      injection hk with hk
      exact hfresh k (by omega)
  · exact (hr.imp_ (fun _ _ hq => step hq (fun _ hk => hk))).snoc (step hp hokp) (d.K_len (d.K_of_M hp))
section
variable {P : Program} {ops : Array Oper} {rest : List Oper} {o : Oper} {a : Act} {Q : Exit → Act → World → Prop} {α : Type}
theorem R_append (d : Kd α) {w0 W : World} (base : Nat) (hgd : o.guard = none) (s x : Operand) (t e : TypeId) (z : Value) (bytes : Nat)
    (ho : o.op = .call { callee := .builtin .append, args := #[s, x], argTypes := #[t, t] })
    (ht : P.underlying t = some (.slice e)) (hinfo : (P.info? e).map (fun i => (i.zero, i.size, i.bytes)) = some (some z, d.sz, bytes)) (hz : z.cells.size = d.sz) (hs0 : 0 < d.sz) (hb0 : 0 < bytes)
    (v : Value) (xs : List α) (p : α) (cs : List Value) (ok okp : Nat → Prop) (hs : a.eval s = v) (hx : a.eval x = .slice (some ⟨W.heap.size, 0, none⟩) 1 1) (hp : d.M W base okp p cs) (hokp : ∀ k, okp k → ok k ∧ some k ≠ v.ownBlock) (hfresh : ∀ k, W.heap.size ≤ k → ok k)
    (HO : d.R e W base ok v xs) (HB : Below base w0 W) (hbase : base ≤ W.heap.size) (hl : (xs.length + 1) * bytes ≤ 140737488355328)
    (h : ∀ v1 w1, d.R e w1 base ok v1 (xs ++ [p]) → Below base w0 w1 → W.grownBy w1 v.ownBlock → (v1.ownBlock = v.ownBlock ∨ ∃ b, v1.ownBlock = some b ∧ W.heap.size ≤ b) → wpList P ops Q rest (a.put o.dst v1) w1) :
    wpList P ops Q (o :: rest) a (W.alloc (.cells cs.toArray e)) := by
  obtain ⟨h0, inner, hown, hr⟩ := HO
  refine print_append_cells base hgd s x t e z d.sz bytes ho ht hinfo hz hs0 hb0 v xs.length inner cs hs hx (d.K_len (d.K_of_M hp)) (d.K_one (d.K_of_M hp)) hown HB hbase hl ?_
  intro v1 w1 hown1 hb1 hg1 hat1
  exact h v1 w1 (R_appended h0 hr hp hokp hfresh hown1 hg1 hat1) hb1 hg1 hat1
end
section
variable {P : Program} {ops : Array Oper} {o : Oper} {a : Act} {Q : Exit → Act → World → Prop} {Kc : Act → World → Prop} {α : Type}
end
theorem C_of_reads {α : Type} {enc : α → Value} {d : α} {h1 : ∀ x, (enc x).oneCell' = true} {w : World} {A : Option Addr} {n : Nat} {xs : List α} (h : ReadsOf enc d w A n xs) : (scalar enc h1).C w A n xs := by
  refine ⟨h.1, h.2.1, fun hn => ?_⟩
  obtain ⟨ad, e, hc⟩ := h.2.2 hn
  refine ⟨ad, e, fun j p hj => ⟨[enc p], rfl, rfl, fun i u hu => ?_⟩⟩
  obtain ⟨hl, hp⟩ := List.getElem?_eq_some_iff.1 hj
  have h2 := hc j (by have := h.1; omega)
  rw [List.getD_eq_getElem?_getD, hj] at h2
  cases i with
  | zero =>
    have : enc p = u := by simpa using hu
    subst this
    simpa [scalar] using h2
  | succ i => simp at hu
theorem reads_of_C {α : Type} {enc : α → Value} {d : α} {h1 : ∀ x, (enc x).oneCell' = true} {w : World} {A : Option Addr} {n : Nat} {xs : List α} (h : (scalar enc h1).C w A n xs) : ReadsOf enc d w A n xs := by
  refine ⟨h.1, h.2.1, fun hn => ?_⟩
  obtain ⟨ad, e, hc⟩ := h.2.2 hn
  refine ⟨ad, e, fun j hj => ?_⟩
  have hl : j < xs.length := by have := h.1; omega
  obtain ⟨c, _, hK, hcell⟩ := hc j _ (List.getElem?_eq_getElem hl)
  have hK' : c = [enc xs[j]] := hK
  subst hK'
  have := hcell 0 _ rfl
  simpa [scalar, List.getD_eq_getElem?_getD, List.getElem?_eq_getElem hl] using this
end Kd
namespace Kd
section
variable {α : Type} {F : Kd α → Kd α} {sz : Nat} {E : List Nat} {hs : ∀ n, (upto F sz E n).sz = sz} {hE : ∀ n q, q ∈ (upto F sz E n).E → q ∈ E}
end
end Kd
namespace Kd
end Kd
namespace Kd
section
variable {α β : Type} {d : Kd α} {d' : Kd β} {e e' : Nat} {w w1 W : World} {base b b' : Nat} {ok ok' okv oku : Nat → Prop} {v u : Value} {xs : List α} {ys : List β}
theorem R_reads' {A : Option Addr} {n c : Nat} (h : d.R e w base ok (.slice A n c) xs) : n = xs.length ∧ n ≤ c ∧ d.C w A xs.length xs := by
  obtain ⟨A', c', he, hl, hr⟩ := R_reads h
  injection he with h1 h2 h3
  subst h1
  exact ⟨h2, by omega, hr⟩
end
section
variable {w W : World} {A : Option Addr} {n : Nat}
theorem at_int {k : IntKind} {xs : List Int} (h : (Kd.int k).C w A n xs) (i : Int) (h0 : 0 ≤ i) (h1 : i < n) : ∃ ad, A = some ad ∧ w.cell? (ad.add i.toNat) = some (.int k (rd xs i)) :=
  ReadsOf.at_ (reads_of_C (enc := Value.int k) (d := (0 : Int)) (h1 := fun _ => rfl) h) i h0 h1
theorem at_string {xs : List ByteArray} (h : Kd.string.C w A n xs) (i : Int) (h0 : 0 ≤ i) (h1 : i < n) : ∃ ad, A = some ad ∧ w.cell? (ad.add i.toNat) = some (.string (rdOf ByteArray.empty xs i)) :=
  ReadsOf.at_ (reads_of_C (enc := Value.string) (d := ByteArray.empty) (h1 := fun _ => rfl) h) i h0 h1
variable {α : Type} {enc : α → Value} {h1 : ∀ x, (enc x).oneCell' = true} {e base g cap : Nat} {ok : Nat → Prop} {xs : List α}
end
section
variable {P : Program} {ops : Array Oper} {rest : List Oper} {o : Oper} {a : Act} {Q : Exit → Act → World → Prop}
variable {α : Type}
end
end Kd
theorem own_take {w : World} {base n m c size : Nat} {e : TypeId} {A : Option Addr} {xs : List Value} (h : w.ownsRow base e size (.slice A n c) n xs) (hm : m ≤ n) : w.ownsRow base e size (.slice A m c) m (xs.take (m * size)) := by
  obtain ⟨h1, h2⟩ := h
  refine ⟨by rw [List.length_take, h1]; exact Nat.min_eq_left (Nat.mul_le_mul_right _ hm), ?_⟩
  rcases h2 with ⟨he, h0⟩ | ⟨g, cap, cur, he, hb, hh, hnc, hcm, hcs, ht⟩
  · injection he with ha _ hc
    subst ha; subst hc
    exact .inl ⟨by rw [show m = 0 by omega], by omega⟩
  · injection he with ha _ hc
    subst ha; subst hc
    refine .inr ⟨g, c, cur, rfl, hb, hh, by omega, hcm, hcs, ?_⟩
    rw [← ht, List.take_take, Nat.min_eq_left (Nat.mul_le_mul_right _ hm)]
section
variable {P : Program}
theorem cut_to (t e : TypeId) (kh : IntKind) {i : TypeInfo} (ht : P.underlying t = some (.slice e)) (hi : P.info? e = some i) (A : Option Addr) (n c : Nat) (j : Int) (h0 : 0 ≤ j) (hm : j ≤ n) (hc : n ≤ c) :
    ∀ W : World, (Instr.slice t (.slice A n c) none (some (.int kh j)) none).run P W = .ok (.slice A j.toNat c) W := by
  intro W
  have hel : P.elem t = e := by simp [Program.elem, ht]
  have hu : P.underlying t = some (.slice (P.elem t)) := by rw [hel]; exact ht
  have ha : (A.map fun x => x.add 0) = A := by cases A <;> simp [Addr.add]
  rw [run_slice_h W t A n c hu kh j h0 (by omega), hel]
  simp [sizeOf, typeInfo, hi, sliced, Result.andThen, ha]
end
def QRow (w : World) (base : Nat) (e : TypeId) (size : Nat) (v : Value) (n : Nat) (xs : List Value) : Prop :=
  xs.length = n * size ∧
  ((n = 0 ∧ ∃ A, v = .slice A 0 0 ∧ ∀ a, A = some a → base ≤ a.block ∧ ∃ cur, w.heap[a.block]? = some (.cells cur e (0, 0))) ∨
   ∃ g off cap cur, v = .slice (some ⟨g, off * size, none⟩) n cap ∧ base ≤ g ∧ w.heap[g]? = some (.cells cur e (0, 0)) ∧ n ≤ cap ∧ off + cap ≤ maxLen ∧ cur.size = (off + cap) * size ∧ (cur.toList.drop (off * size)).take (n * size) = xs)
section
variable {w w1 : World} {base n size : Nat} {e : TypeId} {v : Value} {xs : List Value}
end
section
variable {P : Program}
end
namespace Kd
theorem reps_take {α : Type} {R : α → List Value → Prop} {size m : Nat} {ps : List α} {cs : List Value} (h : Reps R size ps cs) (hm : m ≤ ps.length) : Reps R size (ps.take m) (cs.take (m * size)) := by
  refine ⟨by rw [List.length_take, List.length_take, h.1, Nat.min_eq_left hm, Nat.min_eq_left (Nat.mul_le_mul_right _ hm)], fun j p hj => ?_⟩
  rw [List.getElem?_take] at hj
  split at hj
  · rename_i hjm
    have := h.2 j p hj
    have hle : j * size + size ≤ m * size := by rw [← Nat.succ_mul]; exact Nat.mul_le_mul_right _ hjm
    rw [List.drop_take, List.take_take, Nat.min_eq_left (by omega)]
    exact this
  · cases hj
theorem R_take {α : Type} {d : Kd α} {e m n c : Nat} {w : World} {base : Nat} {ok : Nat → Prop} {A : Option Addr} {xs : List α} (h : d.R e w base ok (.slice A n c) xs) (hm : m ≤ xs.length) : d.R e w base ok (.slice A m c) (xs.take m) := by
  obtain ⟨h0, inner, ho, hr⟩ := h
  have hn : n = xs.length := by
    obtain ⟨A', c', he⟩ := own_slice ho
    injection he
  subst hn
  have hb : ∀ x y : Nat, (Value.slice A x c).ownBlock = (Value.slice A y c).ownBlock := by
    intro x y
    cases A <;> rfl
  refine ⟨fun k hk => h0 k (by rw [hb _ m]; exact hk), inner.take (m * d.sz), ?_, ?_⟩
  · rw [List.length_take, Nat.min_eq_left hm]
    exact own_take ho hm
  · rw [hb m xs.length]
    exact reps_take hr hm
def Q {α : Type} (d : Kd α) (e : Nat) (w : World) (base : Nat) (ok : Nat → Prop) (v : Value) (xs : List α) : Prop :=
  (∀ k, v.ownBlock = some k → ok k) ∧ ∃ inner, QRow w base e d.sz v xs.length inner ∧ Reps (d.M w base (fun k => ok k ∧ some k ≠ v.ownBlock)) d.sz xs inner
section
variable {α : Type} {d : Kd α} {e : Nat} {w w1 W : World} {base : Nat} {ok ok' : Nat → Prop} {v : Value} {xs : List α}
end
section
variable {P : Program} {ops : Array Oper} {rest : List Oper} {o : Oper} {a : Act} {Q' : Exit → Act → World → Prop} {Kc : Act → World → Prop} {α : Type}
end
end Kd
namespace Kd
section
variable {α : Type} {d : Kd α} {e e' : Nat} {w w1 W : World} {base : Nat} {ok : Nat → Prop} {u v : Value} {xs : List α}
end
end Kd
namespace Kd
section
variable {α : Type} {d : Kd α} {e base g n cap : Nat} {ok okp : Nat → Prop} {W : World} {xs : List α}
end
end Kd
namespace Kd
section
variable {α : Type} {F : Kd α → Kd α} {sz : Nat} {E : List Nat} {hs : ∀ n, (upto F sz E n).sz = sz} {hE : ∀ n q, q ∈ (upto F sz E n).E → q ∈ E}
end
end Kd
namespace Kd
section
variable {P : Program} {ops : Array Oper} {rest : List Oper} {o : Oper} {a : Act} {Q : Exit → Act → World → Prop} {α : Type}
end
end Kd
namespace Kd
section
variable {P : Program} {ops : Array Oper} {rest : List Oper} {o : Oper} {a : Act} {Q : Exit → Act → World → Prop} {α : Type}
end
end Kd
namespace Kd
section
variable {α : Type} {k : Kd α} {w : World} {A : Option Addr} {xs : List α} {m c : Nat}
end
end Kd
section
variable {P : Program}
end
theorem below_size {w W : World} (h : Below w.heap.size w W) : w.heap.size ≤ W.heap.size := h.size
theorem below_step {w W w2 : World} (h : Below w.heap.size w W) (k : Below W.heap.size W w2) : Below w.heap.size w w2 := below_then h h.size k
theorem ReadsInt.nil (W : World) (k : IntKind) : ReadsInt W k none ([] : List Int).length [] := ⟨rfl, by simp, fun h => absurd h (Nat.lt_irrefl 0)⟩
theorem ReadsInt.drewN {W : World} {k : IntKind} {A : Option Addr} {n : Nat} {xs : List Int} (h : ReadsInt W k A n xs) (m : Nat) : ReadsInt (W.drewN m) k A n xs := h
theorem ReadsInt.allocS {W : World} {k : IntKind} {A : Option Addr} {n : Nat} {xs : List Int} (h : ReadsInt W k A n xs) (o : Obj) : ReadsInt (W.alloc o) k A n xs := h.below (below_alloc (Below.refl _ _) o)
theorem ReadsInt.ofRow {k : IntKind} {w : World} {a : Option Addr} {len cap : Nat} {zs : List Int} (h : (a = none ∧ len = 0 ∧ cap = 0 ∧ zs = []) ∨ ∃ x, a = some x ∧ len ≤ cap ∧ cap ≤ maxLen ∧ zs.length = cap ∧ (∀ i, i < zs.length → w.cell? (x.add i) = some (.int k (zs.getD i 0))) ∧ ∀ n ∈ zs, (Lit.int k n).wf = true) :
    ∃ l : List Int, len = l.length ∧ ReadsInt w k a l.length l ∧ l.length ≤ maxLen ∧ ∀ x ∈ l, (Lit.int k x).wf = true := by
  rcases h with ⟨rfl, rfl, rfl, rfl⟩ | ⟨x, rfl, hl, hm, hz, hc, hw⟩
  · exact ⟨[], rfl, ReadsInt.nil _ _, Nat.zero_le _, fun x hx => by simp at hx⟩
  · have e : (zs.take len).length = len := by simp; omega
    have hm' : len ≤ maxLen := Nat.le_trans hl hm
    refine ⟨zs.take len, e.symm, ⟨rfl, by rw [e]; simpa [maxLen] using hm', fun _ => ⟨x, rfl, fun j hj => ?_⟩⟩, by rw [e]; exact hm', fun y hy => hw y (List.mem_of_mem_take hy)⟩
    rw [e] at hj
    rw [hc j (by omega)]
    simp [List.getD, List.getElem?_take, hj]
theorem keep_cell {w W : World} {g : Nat} (h : KeepBut w W g none) {a : Addr} {v : Value} (hc : w.cell? a = some v) (hne : a.block ≠ g) : W.cell? a = some v := by
  have := h.2 a.block (World.block_lt_of_cell? w a hc) hne (by simp)
  simpa [World.cell?, this] using hc
theorem add_block (a : Addr) (i : Nat) : (a.add i).block = a.block := by unfold Addr.add; split <;> rfl
theorem ReadsInt.keep {w W : World} {k : IntKind} {A : Option Addr} {n g : Nat} {xs : List Int} (h : ReadsInt w k A n xs) (hk : KeepBut w W g none) (hf : ∀ ad, A = some ad → 0 < n → ad.block ≠ g) : ReadsInt W k A n xs :=
  ⟨h.1, h.2.1, fun hn => by
    obtain ⟨ad, e, hc⟩ := h.2.2 hn
    exact ⟨ad, e, fun j hj => keep_cell hk (hc j hj) (by rw [add_block]; exact hf ad e hn)⟩⟩
theorem ReadsInt.ofRowC {k : IntKind} {w : World} {a : Option Addr} {len cap : Nat} {zs : List Int} (h : (a = none ∧ len = 0 ∧ cap = 0 ∧ zs = []) ∨ ∃ x, a = some x ∧ len ≤ cap ∧ cap ≤ maxLen ∧ zs.length = cap ∧ (∀ i, i < zs.length → w.cell? (x.add i) = some (.int k (zs.getD i 0))) ∧ ∀ n ∈ zs, (Lit.int k n).wf = true) :
    ∃ l : List Int, len = l.length ∧ ReadsInt w k a l.length l ∧ l.length ≤ maxLen ∧ (∀ x ∈ l, (Lit.int k x).wf = true) ∧ l.length ≤ cap := by
  have hl : len ≤ cap := by
    rcases h with ⟨_, rfl, rfl, _⟩ | ⟨_, _, h, _⟩
    · exact Nat.le_refl _
    · exact h
  obtain ⟨l, e, h1, h2, h3⟩ := ReadsInt.ofRow h
  exact ⟨l, e, h1, h2, h3, e ▸ hl⟩
namespace Kd
section
variable {α β : Type} {d : Kd α} {d' : Kd β} {e e' base base' n : Nat} {ok ok' : Nat → Prop} {w W w1 W1 : World} {v u : Value} {xs : List α} {ys : List β} {A : Option Addr} {c : Nat}
end
section
variable {α : Type} {enc : α → Value} {h1 : ∀ x, (enc x).oneCell' = true} {w W : World} {A : Option Addr} {n g : Nat} {xs : List α}
end
end Kd
namespace Kd
section
variable {α : Type} {d : Kd α} {e base g : Nat} {ok : Nat → Prop} {w w1 : World} {v : Value} {xs : List α} {o : Obj}
end
end Kd
section
variable {P : Program} {ops : Array Oper} {rest : List Oper} {o : Oper} {a : Act} {Q : Exit → Act → World → Prop}
end
namespace Kd
section
variable {α : Type} {enc : α → Value} {h1 : ∀ x, (enc x).oneCell' = true} {e base g n cap : Nat} {ok : Nat → Prop} {W : World} {xs : List α}
end
end Kd
section
variable {P : Program} {ops : Array Oper} {rest : List Oper} {o : Oper} {a : Act} {Q : Exit → Act → World → Prop}
end
namespace Kd
section
variable {α : Type} {enc : α → Value} {h1 : ∀ x, (enc x).oneCell' = true} {e base g n cap : Nat} {ok : Nat → Prop} {W : World} {xs : List α}
end
end Kd
section
variable {P : Program} {ops : Array Oper} {rest : List Oper} {o : Oper} {a : Act} {Q : Exit → Act → World → Prop} {W : World}
theorem gate_dst {N : Tmp} (_hN : o.dst = some N) (h : wpList P ops Q (o :: rest) a W) : wpList P ops Q (o :: rest) a W := h
end
section
variable {P : Program} {ops : Array Oper} {o : Oper} {a : Act} {Q : Exit → Act → World → Prop} {Kc : Act → World → Prop}
namespace Kd
variable {α : Type}
end Kd
end
section
variable {P : Program} {tmps : Array Value} {w : World}
end
namespace Kd
section
variable {P : Program} {α : Type}
end
section
variable {P : Program} {ops : Array Oper} {rest : List Oper} {o : Oper} {a : Act} {Q : Exit → Act → World → Prop} {Kc : Act → World → Prop} {α : Type}
end
end Kd
end Go.Proofs.YtgmjaggkiifdjaaDoorW.PrintWords
namespace Go.Proofs.YtgmjaggkiifdjaaDoor.PrX
open Go.RowKit Go.Proofs.YtgmjaggkiifdjaaDoorW.PrintWords
theorem prx_ne (l : List UInt8) : (l != []) = !l.isEmpty := by cases l <;> rfl
theorem prx_sz (l : List UInt8) : (ByteArray.mk l.toArray).size = l.length := by simp [ByteArray.size]
end Go.Proofs.YtgmjaggkiifdjaaDoor.PrX
namespace Go.Proofs.YtgmjaggkiifdjaaDoor.Given
end Go.Proofs.YtgmjaggkiifdjaaDoor.Given
namespace Go.Proofs.YtgmjaggkiifdjaaDoorW.PrintWords
open Go.RowKit
namespace Kd
def tag {α : Type} (f : Nat → Nat) (d : Kd α) : Kd (α × Nat) where
  sz := d.sz
  E := d.E
  K := fun w x cs => d.K w x.1 cs
  M := fun w base ok x cs => d.M w base (fun k => ok k ∧ f k = x.2) x.1 cs
  K_len := fun h => d.K_len h
  K_one := fun h => d.K_one h
  K_below := fun hb h => d.K_below hb h
  K_of_M := fun h => d.K_of_M h
  M_mono := fun hok h => d.M_mono (fun k hk => ⟨hok k hk.1, hk.2⟩) h
  M_bound := fun h => d.M_mono (fun _ hk => ⟨⟨hk.1.1, hk.2⟩, hk.1.2⟩) (d.M_bound h)
  M_move := fun hm h => d.M_move (fun k hk => hm k hk.1) h
  M_lower := fun hb h => d.M_lower hb h
def raw (sz : Nat) : Kd (List Value) where
  sz := sz
  E := []
  K := fun _ x cs => cs = x ∧ cs.length = sz ∧ ∀ u ∈ cs, u.oneCell' = true
  M := fun _ _ _ x cs => cs = x ∧ cs.length = sz ∧ ∀ u ∈ cs, u.oneCell' = true
  K_len := fun h => h.2.1
  K_one := fun h => h.2.2
  K_below := fun _ h => h
  K_of_M := fun h => h
  M_mono := fun _ h => h
  M_bound := fun h => h
  M_move := fun _ h => h
  M_lower := fun _ h => h
def S {α : Type} (d : Kd α) (e : Nat) (w : World) (base : Nat) (ok : Nat → Prop) (v : Value) (xs : List α) : Prop := ∃ f, (tag f d).R e w base ok v xs.zipIdx
section
variable {α β : Type} {d : Kd α} {d' : Kd β} {e e' : Nat} {w w1 W : World} {base b : Nat} {ok ok' okv oku : Nat → Prop} {u v : Value} {xs : List α} {ys : List β}
end
section
variable {α β : Type} {d : Kd α} {d' : Kd β} {e e' g : Nat} {w w1 W : World} {base b : Nat} {ok ok' okv oku : Nat → Prop} {u v : Value} {xs : List α} {ys : List β}
end
section
open Classical in
variable {P : Program} {ops : Array Oper} {rest : List Oper} {o : Oper} {a : Act} {Q : Exit → Act → World → Prop} {Kc : Act → World → Prop} {α : Type}
end
section
variable {α β : Type} {d : Kd α} {e e' g n cap : Nat} {w w1 W : World} {base : Nat} {ok ok' oki okp : Nat → Prop} {u v : Value} {xs : List α} {i : Int} {c : List Value}
open Classical in
end
section
variable {P : Program} {ops : Array Oper} {rest : List Oper} {o : Oper} {a : Act} {Q : Exit → Act → World → Prop} {α : Type}
end
end Kd
end Go.Proofs.YtgmjaggkiifdjaaDoorW.PrintWords
namespace Go.Proofs.YtgmjaggkiifdjaaDoorW.PrintWords
open Go.RowKit
def Foot (P : World → Prop) (W : World) (ok : Nat → Prop) : Prop := ∀ W' : World, (∀ k, ok k → k < W.heap.size → W'.heap[k]? = W.heap[k]?) → P W'
namespace Foot
variable {P Q : World → Prop} {W W1 : World} {ok ok' : Nat → Prop}
end Foot
namespace Kd
def F {α : Type} (d : Kd α) (W : World) (ok : Nat → Prop) (A : Option Addr) (n : Nat) (xs : List α) : Prop := Foot (fun W => d.C W A n xs) W ok
def FK {α : Type} (d : Kd α) (W : World) (ok : Nat → Prop) (x : α) (c : List Value) : Prop := Foot (fun W => d.K W x c) W ok
section
variable {α β : Type} {d : Kd α} {e base n n' cc g N : Nat} {ok ok' okp S : Nat → Prop} {w w0 w1 W W1 : World} {A A' : Option Addr} {u v v1 : Value} {xs : List α} {xs' : List β} {d' : Kd β} {x : α} {c : List Value}
end
end Kd
end Go.Proofs.YtgmjaggkiifdjaaDoorW.PrintWords
namespace Go.Proofs.YtgmjaggkiifdjaaDoorW.PrintWords
open Go.RowKit
namespace Kd
section
variable {α : Type} {d : Kd α} {e base n cc g : Nat} {ok ok' okp S : Nat → Prop} {w w1 W W1 : World} {A : Option Addr} {u v v1 : Value} {xs : List α} {x : α} {c : List Value}
def N {α : Type} (d : Kd α) (e : Nat) (w : World) (base : Nat) (ok : Nat → Prop) (v : Value) (xs : List α) : Prop :=
  (∀ k, v.ownBlock = some k → ok k) ∧ ∃ rows : List (List Value), rows.length = xs.length ∧ (raw d.sz).R e w base (fun k => some k = v.ownBlock) v rows ∧ ∀ (j : Nat) (x : α) (c : List Value), xs[j]? = some x → rows[j]? = some c → FK d w (fun k => ok k ∧ some k ≠ v.ownBlock) x c
end
end Kd
end Go.Proofs.YtgmjaggkiifdjaaDoorW.PrintWords
namespace Go.Proofs.YtgmjaggkiifdjaaDoorW.PrintWords
theorem Reps.one {α : Type} {R : α → List Value → Prop} {ps : List α} {cs : List Value} {p : α} {v : Value} (hp : R p [v]) (h : Reps R 1 ps cs) : Reps R 1 (p :: ps) (v :: cs) := by
  refine ⟨by simp [h.1], fun j q hq => ?_⟩
  cases j with
  | zero =>
    simp only [List.getElem?_cons_zero, Option.some.injEq] at hq
    subst hq
    simpa using hp
  | succ j =>
    simp only [List.getElem?_cons_succ] at hq
    have h1 := h.2 j q hq
    simpa [Nat.mul_one] using h1
theorem Reps.front {α : Type} {R : α → List Value → Prop} {size : Nat} {ps : List α} {cs c all : List Value} {p : α} (hp : R p c) (hc : c.length = size) (h : Reps R size ps cs) (ha : c ++ cs = all) : Reps R size (p :: ps) all := by
  subst ha
  refine ⟨by rw [List.length_append, hc, h.1, List.length_cons, Nat.succ_mul, Nat.add_comm], fun j q hq => ?_⟩
  cases j with
  | zero =>
    simp only [List.getElem?_cons_zero, Option.some.injEq] at hq
    subst hq
    rw [Nat.zero_mul, List.drop_zero, List.take_append_of_le_length (by omega), List.take_of_length_le (by omega)]
    exact hp
  | succ j =>
    simp only [List.getElem?_cons_succ] at hq
    have h1 := h.2 j q hq
    rw [Nat.succ_mul, List.drop_append, List.drop_of_length_le (by rw [hc]; exact Nat.le_add_left _ _), List.nil_append, hc, Nat.add_sub_cancel]
    exact h1
theorem Reps.c2 {α : Type} {R : α → List Value → Prop} {ps : List α} {cs : List Value} {p : α} {va vb : Value} (hp : R p [va, vb]) (h : Reps R 2 ps cs) : Reps R 2 (p :: ps) (va :: vb :: cs) := Reps.front hp rfl h rfl
theorem Reps.c3 {α : Type} {R : α → List Value → Prop} {ps : List α} {cs : List Value} {p : α} {va vb vc : Value} (hp : R p [va, vb, vc]) (h : Reps R 3 ps cs) : Reps R 3 (p :: ps) (va :: vb :: vc :: cs) := Reps.front hp rfl h rfl
theorem Reps.c4 {α : Type} {R : α → List Value → Prop} {ps : List α} {cs : List Value} {p : α} {va vb vc vd : Value} (hp : R p [va, vb, vc, vd]) (h : Reps R 4 ps cs) : Reps R 4 (p :: ps) (va :: vb :: vc :: vd :: cs) := Reps.front hp rfl h rfl
theorem Reps.c5 {α : Type} {R : α → List Value → Prop} {ps : List α} {cs : List Value} {p : α} {va vb vc vd ve : Value} (hp : R p [va, vb, vc, vd, ve]) (h : Reps R 5 ps cs) : Reps R 5 (p :: ps) (va :: vb :: vc :: vd :: ve :: cs) := Reps.front hp rfl h rfl
theorem Reps.c6 {α : Type} {R : α → List Value → Prop} {ps : List α} {cs : List Value} {p : α} {va vb vc vd ve vf : Value} (hp : R p [va, vb, vc, vd, ve, vf]) (h : Reps R 6 ps cs) : Reps R 6 (p :: ps) (va :: vb :: vc :: vd :: ve :: vf :: cs) := Reps.front hp rfl h rfl
theorem Reps.c7 {α : Type} {R : α → List Value → Prop} {ps : List α} {cs : List Value} {p : α} {va vb vc vd ve vf vg : Value} (hp : R p [va, vb, vc, vd, ve, vf, vg]) (h : Reps R 7 ps cs) : Reps R 7 (p :: ps) (va :: vb :: vc :: vd :: ve :: vf :: vg :: cs) := Reps.front hp rfl h rfl
theorem Reps.c8 {α : Type} {R : α → List Value → Prop} {ps : List α} {cs : List Value} {p : α} {va vb vc vd ve vf vg vh : Value} (hp : R p [va, vb, vc, vd, ve, vf, vg, vh]) (h : Reps R 8 ps cs) : Reps R 8 (p :: ps) (va :: vb :: vc :: vd :: ve :: vf :: vg :: vh :: cs) := Reps.front hp rfl h rfl
theorem Reps.c9 {α : Type} {R : α → List Value → Prop} {ps : List α} {cs : List Value} {p : α} {va vb vc vd ve vf vg vh vi : Value} (hp : R p [va, vb, vc, vd, ve, vf, vg, vh, vi]) (h : Reps R 9 ps cs) : Reps R 9 (p :: ps) (va :: vb :: vc :: vd :: ve :: vf :: vg :: vh :: vi :: cs) := Reps.front hp rfl h rfl
theorem Reps.c10 {α : Type} {R : α → List Value → Prop} {ps : List α} {cs : List Value} {p : α} {va vb vc vd ve vf vg vh vi vj : Value} (hp : R p [va, vb, vc, vd, ve, vf, vg, vh, vi, vj]) (h : Reps R 10 ps cs) : Reps R 10 (p :: ps) (va :: vb :: vc :: vd :: ve :: vf :: vg :: vh :: vi :: vj :: cs) := Reps.front hp rfl h rfl
end Go.Proofs.YtgmjaggkiifdjaaDoorW.PrintWords
namespace Go.Proofs.YtgmjaggkiifdjaaDoorW.PrintLast
def up (b : Nat → Bool) (i : Nat) : Nat → Bool := fun j => if j = i then true else b j
section
variable {P : Program} {ops : Array Oper} {Q : Exit → Act → World → Prop} {md : Region.Mode} {T : Bool × List (List Nat × List Nat)} {B : List Nat} {O : List Nat} {b : Nat → Bool} {i j n : Nat}
end
end Go.Proofs.YtgmjaggkiifdjaaDoorW.PrintLast
namespace Go.Proofs.YtgmjaggkiifdjaaDoorW.PrintMore
open Go.RowKit Go.Proofs.YtgmjaggkiifdjaaDoorW.PrintWords
namespace Kd
open Go.Proofs.YtgmjaggkiifdjaaDoorW.PrintWords.Kd
end Kd
namespace Kd
open Go.Proofs.YtgmjaggkiifdjaaDoorW.PrintWords.Kd
section
variable {α : Type} {d : Kd α} {e base g N : Nat} {ok : Nat → Prop} {W w1 : World} {u v : Value} {xs : List α}
end
end Kd
end Go.Proofs.YtgmjaggkiifdjaaDoorW.PrintMore
namespace Go.Proofs.YtgmjaggkiifdjaaDoorW.PrintWords
open Go.RowKit
section
variable {P : Program} {ops : Array Oper} {rest : List Oper} {o : Oper} {a : Act} {Q : Exit → Act → World → Prop} {W : World}
theorem gate_callee {f : FuncId} {as : Array Operand} {ts : Array TypeId} (_ho : o.op = .call { callee := .value (.func f), args := as, argTypes := ts }) (h : wpList P ops Q (o :: rest) a W) : wpList P ops Q (o :: rest) a W := h
theorem gate_builtin {b : Builtin} {xs : Array Operand} {ts : Array TypeId} (_ho : o.op = .call { callee := .builtin b, args := xs, argTypes := ts }) (h : wpList P ops Q (o :: rest) a W) : wpList P ops Q (o :: rest) a W := h
end
def shl (k : IntKind) (x y : Int) : Int := k.wrap (x * 2 ^ min y.toNat k.bits)
namespace Kd
section
variable {α : Type} {d : Kd α} {e base : Nat} {ok : Nat → Prop} {W w1 : World} {v : Value} {xs : List α}
end
section
variable {α : Type} {d : Kd α} {e base g n cap : Nat} {ok oki okp : Nat → Prop} {W : World} {xs : List α} {i : Int} {c : List Value}
end
section
variable {α : Type} {d : Kd α} {e base b b' g N : Nat} {ok ok1 : Nat → Prop} {W W2 w1 : World} {u v : Value} {xs ys : List α} {S : Nat → Prop}
end
end Kd
end Go.Proofs.YtgmjaggkiifdjaaDoorW.PrintWords
namespace Go.Proofs.YtgmjaggkiifdjaaDoorW.PrintWords
open Go.RowKit
namespace Kd
section
variable {α β : Type} {d : Kd α} {e base base' n m c g N' lo hi : Nat} {ok ok' S : Nat → Prop} {w W w1 : World} {A : Option Addr} {ad : Addr} {u v v1 : Value} {xs : List α}
end
end Kd
end Go.Proofs.YtgmjaggkiifdjaaDoorW.PrintWords
