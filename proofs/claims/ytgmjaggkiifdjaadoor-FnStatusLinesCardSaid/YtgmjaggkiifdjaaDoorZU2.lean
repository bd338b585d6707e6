/- Texts of this claim, one behind the other (merged by wip/prune.py of this repo, without what the proof does not use): WWords, WApart, WShare, WN, WMore, PrX, WRepsOne. -/
import Derived.Test.YtgmjaggkiifdjaaDoorZU1
import Derived.ArgAppend
import Derived.Below
import Derived.BigQuiet
import Derived.Deep.AppendLies
import Derived.Deep.CutBlock
import Derived.Deep.DeepCutAuto
import Derived.Deep.Draws
import Derived.Deep.LoopGhost
import Derived.Deep.OwnRows
import Derived.Deep.QuietTactic
import Derived.Deep.RegionHeld3
import Derived.KernelRfl
import Derived.Laws.BytesArg
import Derived.Laws.IdiomCopy
import Derived.Laws.MakeOwn
import Derived.Laws.OwnMore
import Derived.Laws.Rows
import Derived.Laws.Slices
import Derived.Lib.AppendStr
import Derived.Lib.ConvBytes
import Derived.Maps.AppendAt
import Derived.OwnWalk
import Derived.RowKit
import Derived.RowKit3
import Derived.Tactics
import Derived.WalkKit
import Derived.WideLaws
set_option linter.unusedVariables false
set_option linter.unusedSimpArgs false
namespace Go.Proofs.YtgmjaggkiifdjaaDoorW.PrintWords
open Go.RowKit
structure Aside0 (p : Prop) : Prop where mk :: (out : p)
def bt (s : ByteArray) (i : Int) : Int := if h : i.toNat < s.size then ((s[i.toNat]'h).toNat : Int) else 0
def nums (k : IntKind) (xs : List Int) : List Value := xs.map fun x => .int k x
theorem below_alloc {w W : World} (h : Below w.heap.size w W) (o : Obj) : Below w.heap.size w (W.alloc o) := h.alloc h.size o
theorem below_then {B : Nat} {w w1 w2 : World} (h : Below B w w1) (hB : B ≤ w1.heap.size) (k : Below w1.heap.size w1 w2) : Below B w w2 :=
  h.trans ⟨k.os, k.tape, k.output, k.size, fun i hi => k.block i (Nat.lt_of_lt_of_le hi hB)⟩
theorem own_string {P : Program} {w : World} {base n : Nat} {e' src dst e : TypeId} {v : Value} {xs : List Int} (hs : P.underlying src = some (.slice e)) (he : P.underlying e = some (.int .u8)) (hd : P.underlying dst = some .string)
    (h : w.ownsRow base e' 1 v n (nums .u8 xs)) : (convert src dst v).run P w = .ok (.string (strOfNums xs)) w := by
  have hl : xs.length = n := by have := h.1; simp [nums] at this; exact this
  rcases h.2 with ⟨rfl, rfl⟩ | ⟨g, cap, cur, rfl, _⟩
  · obtain rfl : xs = [] := List.eq_nil_of_length_eq_zero hl
    exact run_convert_bytes_nil w src e hs he 0 0 dst hd
  · refine run_convert_bytes_arg w src e hs he g 0 n cap xs hl (fun i hi => ?_) dst hd
    have hc := h.cells (g := g) rfl i (.int .u8 (xs.getD i 0)) (by simp [nums, List.getElem?_eq_getElem (show i < xs.length by omega), List.getD_eq_getElem?_getD])
    have ha : (⟨g, 0, none⟩ : Addr).add i = ⟨g, 0 + i, none⟩ := by unfold Addr.add; split <;> simp_all
    rwa [ha] at hc
section
variable {P : Program} {ops : Array Oper} {rest : List Oper} {o : Oper} {a : Act} {Q : Exit → Act → World → Prop}
end
section
variable {P : Program}
end
section
variable {P : Program} {ops : Array Oper} {rest : List Oper} {o : Oper} {a : Act} {Q : Exit → Act → World → Prop}
end
def Reps {α : Type} (R : α → List Value → Prop) (size : Nat) (ps : List α) (cs : List Value) : Prop :=
  cs.length = ps.length * size ∧ ∀ j p, ps[j]? = some p → R p ((cs.drop (j * size)).take size)
theorem Reps.none {α : Type} (R : α → List Value → Prop) (size : Nat) : Reps R size [] [] := ⟨by simp, fun j p h => by simp at h⟩
theorem Reps.imp_ {α : Type} {R R' : α → List Value → Prop} {size : Nat} {ps : List α} {cs : List Value} (h : Reps R size ps cs) (hR : ∀ p c, R p c → R' p c) : Reps R' size ps cs := ⟨h.1, fun j p hj => hR _ _ (h.2 j p hj)⟩
def ReadsRow {α : Type} (R : α → List Value → Prop) (size : Nat) (w : World) (A : Option Addr) (n : Nat) (ps : List α) : Prop :=
  ps.length = n ∧ n ≤ 9223372036854775807 ∧ (0 < n → ∃ ad, A = some ad ∧ ∀ j p, ps[j]? = some p → ∃ c, c.length = size ∧ R p c ∧ ∀ i u, c[i]? = some u → w.cell? (ad.add (j * size + i)) = some u)
section
variable {P : Program} {ops : Array Oper} {rest : List Oper} {o : Oper} {a : Act} {Q : Exit → Act → World → Prop}
end
def Ev {α : Type} (g : Nat → Option α) (r : α) : Prop := ∃ K, ∀ k, K ≤ k → g k = some r
theorem Ev.now {α : Type} (r : α) : Ev (fun _ => some r) r := ⟨0, fun _ _ => rfl⟩
theorem Ev.rounds {α : Type} {g : Nat → Option α} {r : α} (h : Ev g r) : ∃ k, g k = some r := by
  obtain ⟨K, h⟩ := h
  exact ⟨K, h K (Nat.le_refl _)⟩
theorem Ev.bind {α β : Type} {g : Nat → Option α} {f : Nat → α → Option β} {a : α} {r : β} (h : Ev g a) (k : Ev (fun n => f n a) r) : Ev (fun n => (g n).bind (f n)) r := by
  obtain ⟨K, h⟩ := h
  obtain ⟨K', k⟩ := k
  refine ⟨max K K', fun n hn => ?_⟩
  have h1 := h n (by omega)
  have h2 := k n (by omega)
  simp only [h1, Option.bind_some]
  exact h2
theorem Ev.step {α : Type} {g f : Nat → Option α} {r : α} (h : ∀ k, g (k + 1) = f k) (k : Ev f r) : Ev g r := by
  obtain ⟨K, k⟩ := k
  refine ⟨K + 1, fun n hn => ?_⟩
  obtain ⟨m, rfl⟩ : ∃ m, n = m + 1 := ⟨n - 1, by omega⟩
  rw [h]
  exact k m (by omega)
section
variable {P : Program} {ops : Array Oper} {o : Oper} {a : Act} {Q : Exit → Act → World → Prop} {K : Act → World → Prop}
end
theorem own_weaken {w : World} {base base' : Nat} {e : TypeId} {size n : Nat} {v : Value} {xs : List Value} (h : w.ownsRow base e size v n xs) (hb : base' ≤ base) : w.ownsRow base' e size v n xs := by
  obtain ⟨h1, h2⟩ := h
  refine ⟨h1, ?_⟩
  rcases h2 with h2 | ⟨g, cap, cur, rfl, hg, r⟩
  · exact .inl h2
  · exact .inr ⟨g, cap, cur, rfl, Nat.le_trans hb hg, r⟩
section
variable {α : Type} {enc : α → Value} {d : α}
def encs (enc : α → Value) (xs : List α) : List Value := xs.map enc
theorem encs_length (xs : List α) : (encs enc xs).length = xs.length := by simp [encs]
end
section
variable {α : Type} {P : Program} {ops : Array Oper} {rest : List Oper} {o : Oper} {a : Act} {Q : Exit → Act → World → Prop}
end
section
variable {P : Program}
end
def OwnRow {α : Type} (R : α → List Value → Prop) (e : TypeId) (size : Nat) (w : World) (base : Nat) (v : Value) (ps : List α) : Prop :=
  ∃ inner, w.ownsRow base e size v ps.length inner ∧ Reps R size ps inner
section
variable {α : Type} {R R' : α → List Value → Prop} {e : TypeId} {size : Nat} {w w1 : World} {base : Nat} {v : Value} {ps : List α}
end
section
variable {P : Program} {ops : Array Oper} {rest : List Oper} {o : Oper} {a : Act} {Q : Exit → Act → World → Prop} {α : Type} {R : α → List Value → Prop}
end
section
variable {P : Program} {ops : Array Oper} {o : Oper} {a : Act} {Q : Exit → Act → World → Prop} {K : Act → World → Prop} {α : Type} {R : α → List Value → Prop}
end
section
variable {α : Type} {P : Program}
end
section
variable {P : Program} {ops : Array Oper} {rest : List Oper} {o : Oper} {a : Act} {Q : Exit → Act → World → Prop}
end
structure Kd (α : Type) where
  sz : Nat
  E : List Nat
  K : World → α → List Value → Prop
  M : World → Nat → (Nat → Prop) → α → List Value → Prop
  K_len : ∀ {w x cs}, K w x cs → cs.length = sz
  K_one : ∀ {w x cs}, K w x cs → ∀ u ∈ cs, u.oneCell' = true
  K_below : ∀ {w w1 : World} {x cs}, Below w.heap.size w w1 → K w x cs → K w1 x cs
  K_of_M : ∀ {w base ok x cs}, M w base ok x cs → K w x cs
  M_mono : ∀ {w base ok ok' x cs}, (∀ k, ok k → ok' k) → M w base ok x cs → M w base ok' x cs
  M_bound : ∀ {w : World} {base ok x cs}, M w base ok x cs → M w base (fun k => ok k ∧ base ≤ k ∧ k < w.heap.size ∧ ∃ q, q ∈ E ∧ ∃ cells, w.heap[k]? = some (.cells cells q (0, 0))) x cs
  M_move : ∀ {w w1 : World} {base ok x cs}, (∀ k, ok k → w1.heap[k]? = w.heap[k]?) → M w base ok x cs → M w1 base ok x cs
  M_lower : ∀ {w base base' ok x cs}, base' ≤ base → M w base ok x cs → M w base' ok x cs
namespace Kd
def C {α : Type} (d : Kd α) (w : World) (A : Option Addr) (n : Nat) (xs : List α) : Prop := ReadsRow (d.K w) d.sz w A n xs
def R {α : Type} (d : Kd α) (e : Nat) (w : World) (base : Nat) (ok : Nat → Prop) (v : Value) (xs : List α) : Prop :=
  (∀ k, v.ownBlock = some k → ok k) ∧ OwnRow (d.M w base (fun k => ok k ∧ some k ≠ v.ownBlock)) e d.sz w base v xs
section
variable {α : Type} {d : Kd α} {e : Nat} {w w1 : World} {base : Nat} {ok ok' : Nat → Prop} {v : Value} {xs : List α}
theorem R_lower {base' : Nat} (h : d.R e w base ok v xs) (hb : base' ≤ base) : d.R e w base' ok v xs := by
  obtain ⟨h0, inner, ho, hr⟩ := h
  exact ⟨h0, inner, own_weaken ho hb, hr.imp_ (fun _ _ hp => d.M_lower hb hp)⟩
theorem M_step {x : α} {cs : List Value} (h : d.M w base ok x cs) (hm : ∀ k, ok k → k < w.heap.size → w1.heap[k]? = w.heap[k]?) : d.M w1 base ok x cs :=
  d.M_mono (fun _ hk => hk.1) (d.M_move (fun k hk => hm k hk.1 hk.2.2.1) (d.M_bound h))
theorem M_below {x : α} {cs : List Value} (h : d.M w base ok x cs) (hb : Below w.heap.size w w1) : d.M w1 base ok x cs := M_step h (fun k _ hk => hb.block k hk)
end
def scalar {α : Type} (enc : α → Value) (h1 : ∀ x, (enc x).oneCell' = true) : Kd α where
  sz := 1
  E := []
  K := fun _ x cs => cs = [enc x]
  M := fun _ _ _ x cs => cs = [enc x]
  K_len := fun h => by rw [h]; rfl
  K_one := fun h u hu => by
    rw [h] at hu
    rw [List.mem_singleton.1 hu]
    exact h1 _
  K_below := fun _ h => h
  K_of_M := fun h => h
  M_mono := fun _ h => h
  M_bound := fun h => h
  M_move := fun _ h => h
  M_lower := fun _ h => h
def int (k : IntKind) : Kd Int := scalar (Value.int k) (fun _ => rfl)
def bot {α : Type} (sz : Nat) (E : List Nat) : Kd α where
  sz := sz
  E := E
  K := fun _ _ _ => False
  M := fun _ _ _ _ _ => False
  K_len := fun h => h.elim
  K_one := fun h => h.elim
  K_below := fun _ h => h
  K_of_M := fun h => h
  M_mono := fun _ h => h
  M_bound := fun h => h
  M_move := fun _ h => h
  M_lower := fun _ h => h
def upto {α : Type} (F : Kd α → Kd α) (sz : Nat) (E : List Nat) : Nat → Kd α
  | 0 => bot sz E
  | n + 1 => F (upto F sz E n)
section
variable {P : Program} {ops : Array Oper} {rest : List Oper} {o : Oper} {a : Act} {Q : Exit → Act → World → Prop} {α : Type}
end
section
variable {P : Program} {ops : Array Oper} {o : Oper} {a : Act} {Q : Exit → Act → World → Prop} {Kc : Act → World → Prop} {α : Type}
end
theorem own_of_R {α : Type} {enc : α → Value} {h1 : ∀ x, (enc x).oneCell' = true} {e : Nat} {w : World} {base : Nat} {ok : Nat → Prop} {v : Value} {xs : List α} (h : (scalar enc h1).R e w base ok v xs) : w.ownsRow base e 1 v xs.length (encs enc xs) := by
  obtain ⟨_, inner, ho, hr⟩ := h
  have : inner = encs enc xs := by
    apply List.ext_getElem?
    intro j
    rcases Nat.lt_or_ge j xs.length with hj | hj
    · have h2 := hr.2 j _ (List.getElem?_eq_getElem hj)
      have hl : j < inner.length := by have := hr.1; simp [scalar] at this; omega
      have h3 : (inner.drop (j * 1)).take 1 = [enc xs[j]] := h2
      rw [Nat.mul_one, List.drop_eq_getElem_cons hl] at h3
      have h4 : inner[j] = enc xs[j] := by
        have h5 := congrArg List.head? h3
        rw [List.take_succ_cons] at h5
        exact Option.some.inj h5
      rw [List.getElem?_eq_getElem hl, h4]
      simp [encs, List.getElem?_eq_getElem hj]
    · have h3 : inner.length = xs.length := by have := hr.1; simp [scalar] at this; omega
      rw [List.getElem?_eq_none (by omega), List.getElem?_eq_none (by rw [encs_length]; omega)]
  rw [← this]
  exact ho
end Kd
namespace Kd
section
variable {α : Type} {F : Kd α → Kd α} {sz : Nat} {E : List Nat} {hs : ∀ n, (upto F sz E n).sz = sz} {hE : ∀ n q, q ∈ (upto F sz E n).E → q ∈ E}
end
end Kd
namespace Kd
end Kd
namespace Kd
section
variable {α β : Type} {d : Kd α} {d' : Kd β} {e e' : Nat} {w w1 W : World} {base b b' : Nat} {ok ok' okv oku : Nat → Prop} {v u : Value} {xs : List α} {ys : List β}
end
section
variable {w W : World} {A : Option Addr} {n : Nat}
variable {α : Type} {enc : α → Value} {h1 : ∀ x, (enc x).oneCell' = true} {e base g cap : Nat} {ok : Nat → Prop} {xs : List α}
end
section
variable {P : Program} {ops : Array Oper} {rest : List Oper} {o : Oper} {a : Act} {Q : Exit → Act → World → Prop}
theorem event_run {W w1 : World} {v : Value} (hgd : o.guard = none) (hrun : (execOp a.eval o).run P W = .ok (.value v) w1) (h : wpList P ops Q rest (a.put o.dst v) w1) : wpList P ops Q (o :: rest) a W := by
  refine wpList_plain hgd fun K hK => ?_
  unfold Oper.wp
  rw [hrun]
  exact hK _ _ h
variable {α : Type}
theorem R_lit (d : Kd α) {w0 W : World} (base e : Nat) (hgd : o.guard = none) {N : Tmp} (_hd : o.dst = some N) {xs : List α} {inner : List Value} {ok okp : Nat → Prop}
    (hrun : (execOp a.eval o).run P W = .ok (.value (.slice (some ⟨W.heap.size, 0, none⟩) xs.length xs.length)) (W.alloc (.cells inner.toArray e)))
    (hrep : Reps (d.M W base okp) d.sz xs inner) (hok : ∀ k, okp k → ok k) (hfresh : ok W.heap.size) (HB : Below base w0 W) (hbase : base ≤ W.heap.size) (hm : xs.length ≤ 9223372036854775807)
    (h : ∀ v1 w1, d.R e w1 base ok v1 xs → Below base w0 w1 → W.grownBy w1 none → (∃ b, v1.ownBlock = some b ∧ W.heap.size ≤ b) → wpList P ops Q rest (a.put o.dst v1) w1) : wpList P ops Q (o :: rest) a W := by
  refine event_run hgd hrun (h _ _ ⟨fun k hk => ?_, inner, ?_, ?_⟩ (HB.alloc hbase _) (World.grownBy_alloc W _ none) ⟨W.heap.size, by simp [Value.ownBlock], Nat.le_refl _⟩)
  · have : W.heap.size = k := by simpa [Value.ownBlock] using hk
    subst this
    exact hfresh
  · have h2 := World.ownsRow_lit (base := base) (e := e) (size := d.sz) W inner.toArray xs.length hbase (by simpa [maxLen] using hm) (by simpa using hrep.1)
    simpa using h2
  · refine hrep.imp_ (fun p c hp => d.M_mono (fun k hk => ⟨hok k hk.1, fun he => ?_⟩) (M_below (d.M_bound hp) (below_alloc (Below.refl _ _) _)))
    have h3 : k = W.heap.size := by simpa [Value.ownBlock] using he
    have := hk.2.2.1
    omega
end
end Kd
section
variable {P : Program}
end
def QRow (w : World) (base : Nat) (e : TypeId) (size : Nat) (v : Value) (n : Nat) (xs : List Value) : Prop :=
  xs.length = n * size ∧
  ((n = 0 ∧ ∃ A, v = .slice A 0 0 ∧ ∀ a, A = some a → base ≤ a.block ∧ ∃ cur, w.heap[a.block]? = some (.cells cur e (0, 0))) ∨
   ∃ g off cap cur, v = .slice (some ⟨g, off * size, none⟩) n cap ∧ base ≤ g ∧ w.heap[g]? = some (.cells cur e (0, 0)) ∧ n ≤ cap ∧ off + cap ≤ maxLen ∧ cur.size = (off + cap) * size ∧ (cur.toList.drop (off * size)).take (n * size) = xs)
section
variable {w w1 : World} {base n size : Nat} {e : TypeId} {v : Value} {xs : List Value}
end
section
variable {P : Program}
end
namespace Kd
def Q {α : Type} (d : Kd α) (e : Nat) (w : World) (base : Nat) (ok : Nat → Prop) (v : Value) (xs : List α) : Prop :=
  (∀ k, v.ownBlock = some k → ok k) ∧ ∃ inner, QRow w base e d.sz v xs.length inner ∧ Reps (d.M w base (fun k => ok k ∧ some k ≠ v.ownBlock)) d.sz xs inner
section
variable {α : Type} {d : Kd α} {e : Nat} {w w1 W : World} {base : Nat} {ok ok' : Nat → Prop} {v : Value} {xs : List α}
end
section
variable {P : Program} {ops : Array Oper} {rest : List Oper} {o : Oper} {a : Act} {Q' : Exit → Act → World → Prop} {Kc : Act → World → Prop} {α : Type}
end
end Kd
namespace Kd
section
variable {α : Type} {d : Kd α} {e e' : Nat} {w w1 W : World} {base : Nat} {ok : Nat → Prop} {u v : Value} {xs : List α}
end
end Kd
namespace Kd
section
variable {α : Type} {d : Kd α} {e base g n cap : Nat} {ok okp : Nat → Prop} {W : World} {xs : List α}
end
end Kd
namespace Kd
section
variable {α : Type} {F : Kd α → Kd α} {sz : Nat} {E : List Nat} {hs : ∀ n, (upto F sz E n).sz = sz} {hE : ∀ n q, q ∈ (upto F sz E n).E → q ∈ E}
end
end Kd
namespace Kd
section
variable {P : Program} {ops : Array Oper} {rest : List Oper} {o : Oper} {a : Act} {Q : Exit → Act → World → Prop} {α : Type}
end
end Kd
namespace Kd
section
variable {P : Program} {ops : Array Oper} {rest : List Oper} {o : Oper} {a : Act} {Q : Exit → Act → World → Prop} {α : Type}
end
end Kd
namespace Kd
section
variable {α : Type} {k : Kd α} {w : World} {A : Option Addr} {xs : List α} {m c : Nat}
end
end Kd
section
variable {P : Program}
end
theorem below_size {w W : World} (h : Below w.heap.size w W) : w.heap.size ≤ W.heap.size := h.size
theorem below_step {w W w2 : World} (h : Below w.heap.size w W) (k : Below W.heap.size W w2) : Below w.heap.size w w2 := below_then h h.size k
namespace Kd
section
variable {α β : Type} {d : Kd α} {d' : Kd β} {e e' base base' n : Nat} {ok ok' : Nat → Prop} {w W w1 W1 : World} {v u : Value} {xs : List α} {ys : List β} {A : Option Addr} {c : Nat}
end
section
variable {α : Type} {enc : α → Value} {h1 : ∀ x, (enc x).oneCell' = true} {w W : World} {A : Option Addr} {n g : Nat} {xs : List α}
end
end Kd
namespace Kd
section
variable {α : Type} {d : Kd α} {e base g : Nat} {ok : Nat → Prop} {w w1 : World} {v : Value} {xs : List α} {o : Obj}
end
end Kd
section
variable {P : Program} {ops : Array Oper} {rest : List Oper} {o : Oper} {a : Act} {Q : Exit → Act → World → Prop}
end
namespace Kd
section
variable {α : Type} {enc : α → Value} {h1 : ∀ x, (enc x).oneCell' = true} {e base g n cap : Nat} {ok : Nat → Prop} {W : World} {xs : List α}
end
end Kd
section
variable {P : Program} {ops : Array Oper} {rest : List Oper} {o : Oper} {a : Act} {Q : Exit → Act → World → Prop}
end
namespace Kd
section
variable {α : Type} {enc : α → Value} {h1 : ∀ x, (enc x).oneCell' = true} {e base g n cap : Nat} {ok : Nat → Prop} {W : World} {xs : List α}
end
end Kd
section
variable {P : Program} {ops : Array Oper} {rest : List Oper} {o : Oper} {a : Act} {Q : Exit → Act → World → Prop} {W : World}
theorem gate_dst {N : Tmp} (_hN : o.dst = some N) (h : wpList P ops Q (o :: rest) a W) : wpList P ops Q (o :: rest) a W := h
end
section
variable {P : Program} {ops : Array Oper} {o : Oper} {a : Act} {Q : Exit → Act → World → Prop} {Kc : Act → World → Prop}
namespace Kd
variable {α : Type}
end Kd
end
section
variable {P : Program} {tmps : Array Value} {w : World}
end
namespace Kd
section
variable {P : Program} {α : Type}
end
section
variable {P : Program} {ops : Array Oper} {rest : List Oper} {o : Oper} {a : Act} {Q : Exit → Act → World → Prop} {Kc : Act → World → Prop} {α : Type}
end
end Kd
end Go.Proofs.YtgmjaggkiifdjaaDoorW.PrintWords
namespace Go.Proofs.YtgmjaggkiifdjaaDoorW.PrintWords
open Go.RowKit
namespace Kd
def tag {α : Type} (f : Nat → Nat) (d : Kd α) : Kd (α × Nat) where
  sz := d.sz
  E := d.E
  K := fun w x cs => d.K w x.1 cs
  M := fun w base ok x cs => d.M w base (fun k => ok k ∧ f k = x.2) x.1 cs
  K_len := fun h => d.K_len h
  K_one := fun h => d.K_one h
  K_below := fun hb h => d.K_below hb h
  K_of_M := fun h => d.K_of_M h
  M_mono := fun hok h => d.M_mono (fun k hk => ⟨hok k hk.1, hk.2⟩) h
  M_bound := fun h => d.M_mono (fun _ hk => ⟨⟨hk.1.1, hk.2⟩, hk.1.2⟩) (d.M_bound h)
  M_move := fun hm h => d.M_move (fun k hk => hm k hk.1) h
  M_lower := fun hb h => d.M_lower hb h
def raw (sz : Nat) : Kd (List Value) where
  sz := sz
  E := []
  K := fun _ x cs => cs = x ∧ cs.length = sz ∧ ∀ u ∈ cs, u.oneCell' = true
  M := fun _ _ _ x cs => cs = x ∧ cs.length = sz ∧ ∀ u ∈ cs, u.oneCell' = true
  K_len := fun h => h.2.1
  K_one := fun h => h.2.2
  K_below := fun _ h => h
  K_of_M := fun h => h
  M_mono := fun _ h => h
  M_bound := fun h => h
  M_move := fun _ h => h
  M_lower := fun _ h => h
def S {α : Type} (d : Kd α) (e : Nat) (w : World) (base : Nat) (ok : Nat → Prop) (v : Value) (xs : List α) : Prop := ∃ f, (tag f d).R e w base ok v xs.zipIdx
section
variable {α β : Type} {d : Kd α} {d' : Kd β} {e e' : Nat} {w w1 W : World} {base b : Nat} {ok ok' okv oku : Nat → Prop} {u v : Value} {xs : List α} {ys : List β}
end
section
variable {α β : Type} {d : Kd α} {d' : Kd β} {e e' g : Nat} {w w1 W : World} {base b : Nat} {ok ok' okv oku : Nat → Prop} {u v : Value} {xs : List α} {ys : List β}
end
section
open Classical in
variable {P : Program} {ops : Array Oper} {rest : List Oper} {o : Oper} {a : Act} {Q : Exit → Act → World → Prop} {Kc : Act → World → Prop} {α : Type}
end
section
variable {α β : Type} {d : Kd α} {e e' g n cap : Nat} {w w1 W : World} {base : Nat} {ok ok' oki okp : Nat → Prop} {u v : Value} {xs : List α} {i : Int} {c : List Value}
open Classical in
end
section
variable {P : Program} {ops : Array Oper} {rest : List Oper} {o : Oper} {a : Act} {Q : Exit → Act → World → Prop} {α : Type}
end
end Kd
end Go.Proofs.YtgmjaggkiifdjaaDoorW.PrintWords
namespace Go.Proofs.YtgmjaggkiifdjaaDoorW.PrintWords
open Go.RowKit
def Foot (P : World → Prop) (W : World) (ok : Nat → Prop) : Prop := ∀ W' : World, (∀ k, ok k → k < W.heap.size → W'.heap[k]? = W.heap[k]?) → P W'
namespace Foot
variable {P Q : World → Prop} {W W1 : World} {ok ok' : Nat → Prop}
end Foot
namespace Kd
def F {α : Type} (d : Kd α) (W : World) (ok : Nat → Prop) (A : Option Addr) (n : Nat) (xs : List α) : Prop := Foot (fun W => d.C W A n xs) W ok
def FK {α : Type} (d : Kd α) (W : World) (ok : Nat → Prop) (x : α) (c : List Value) : Prop := Foot (fun W => d.K W x c) W ok
section
variable {α β : Type} {d : Kd α} {e base n n' cc g N : Nat} {ok ok' okp S : Nat → Prop} {w w0 w1 W W1 : World} {A A' : Option Addr} {u v v1 : Value} {xs : List α} {xs' : List β} {d' : Kd β} {x : α} {c : List Value}
end
end Kd
end Go.Proofs.YtgmjaggkiifdjaaDoorW.PrintWords
namespace Go.Proofs.YtgmjaggkiifdjaaDoorW.PrintWords
open Go.RowKit
namespace Kd
section
variable {α : Type} {d : Kd α} {e base n cc g : Nat} {ok ok' okp S : Nat → Prop} {w w1 W W1 : World} {A : Option Addr} {u v v1 : Value} {xs : List α} {x : α} {c : List Value}
def N {α : Type} (d : Kd α) (e : Nat) (w : World) (base : Nat) (ok : Nat → Prop) (v : Value) (xs : List α) : Prop :=
  (∀ k, v.ownBlock = some k → ok k) ∧ ∃ rows : List (List Value), rows.length = xs.length ∧ (raw d.sz).R e w base (fun k => some k = v.ownBlock) v rows ∧ ∀ (j : Nat) (x : α) (c : List Value), xs[j]? = some x → rows[j]? = some c → FK d w (fun k => ok k ∧ some k ≠ v.ownBlock) x c
end
end Kd
end Go.Proofs.YtgmjaggkiifdjaaDoorW.PrintWords
namespace Go.Proofs.YtgmjaggkiifdjaaDoorW.PrintMore
open Go.RowKit Go.Proofs.YtgmjaggkiifdjaaDoorW.PrintWords
namespace Kd
open Go.Proofs.YtgmjaggkiifdjaaDoorW.PrintWords.Kd
end Kd
namespace Kd
open Go.Proofs.YtgmjaggkiifdjaaDoorW.PrintWords.Kd
section
variable {α : Type} {d : Kd α} {e base g N : Nat} {ok : Nat → Prop} {W w1 : World} {u v : Value} {xs : List α}
end
end Kd
end Go.Proofs.YtgmjaggkiifdjaaDoorW.PrintMore
namespace Go.Proofs.YtgmjaggkiifdjaaDoorW.PrintWords
open Go.RowKit
section
variable {P : Program} {ops : Array Oper} {rest : List Oper} {o : Oper} {a : Act} {Q : Exit → Act → World → Prop} {W : World}
theorem gate_callee {f : FuncId} {as : Array Operand} {ts : Array TypeId} (_ho : o.op = .call { callee := .value (.func f), args := as, argTypes := ts }) (h : wpList P ops Q (o :: rest) a W) : wpList P ops Q (o :: rest) a W := h
end
namespace Kd
section
variable {α : Type} {d : Kd α} {e base : Nat} {ok : Nat → Prop} {W w1 : World} {v : Value} {xs : List α}
end
section
variable {α : Type} {d : Kd α} {e base g n cap : Nat} {ok oki okp : Nat → Prop} {W : World} {xs : List α} {i : Int} {c : List Value}
end
section
variable {α : Type} {d : Kd α} {e base b b' g N : Nat} {ok ok1 : Nat → Prop} {W W2 w1 : World} {u v : Value} {xs ys : List α} {S : Nat → Prop}
end
end Kd
end Go.Proofs.YtgmjaggkiifdjaaDoorW.PrintWords
namespace Go.Proofs.YtgmjaggkiifdjaaDoorW.PrintWords
open Go.RowKit
namespace Kd
section
variable {α β : Type} {d : Kd α} {e base base' n m c g N' lo hi : Nat} {ok ok' S : Nat → Prop} {w W w1 : World} {A : Option Addr} {ad : Addr} {u v v1 : Value} {xs : List α}
end
end Kd
end Go.Proofs.YtgmjaggkiifdjaaDoorW.PrintWords
namespace Go.Proofs.YtgmjaggkiifdjaaDoor.PrX
open Go.RowKit Go.Proofs.YtgmjaggkiifdjaaDoorW.PrintWords
theorem prx_sz (l : List UInt8) : (ByteArray.mk l.toArray).size = l.length := by simp [ByteArray.size]
end Go.Proofs.YtgmjaggkiifdjaaDoor.PrX
namespace Go.Proofs.YtgmjaggkiifdjaaDoor.Given
end Go.Proofs.YtgmjaggkiifdjaaDoor.Given
namespace Go.Proofs.YtgmjaggkiifdjaaDoorW.PrintWords
theorem Reps.one {α : Type} {R : α → List Value → Prop} {ps : List α} {cs : List Value} {p : α} {v : Value} (hp : R p [v]) (h : Reps R 1 ps cs) : Reps R 1 (p :: ps) (v :: cs) := by
  refine ⟨by simp [h.1], fun j q hq => ?_⟩
  cases j with
  | zero =>
    simp only [List.getElem?_cons_zero, Option.some.injEq] at hq
    subst hq
    simpa using hp
  | succ j =>
    simp only [List.getElem?_cons_succ] at hq
    have h1 := h.2 j q hq
    simpa [Nat.mul_one] using h1
theorem Reps.front {α : Type} {R : α → List Value → Prop} {size : Nat} {ps : List α} {cs c all : List Value} {p : α} (hp : R p c) (hc : c.length = size) (h : Reps R size ps cs) (ha : c ++ cs = all) : Reps R size (p :: ps) all := by
  subst ha
  refine ⟨by rw [List.length_append, hc, h.1, List.length_cons, Nat.succ_mul, Nat.add_comm], fun j q hq => ?_⟩
  cases j with
  | zero =>
    simp only [List.getElem?_cons_zero, Option.some.injEq] at hq
    subst hq
    rw [Nat.zero_mul, List.drop_zero, List.take_append_of_le_length (by omega), List.take_of_length_le (by omega)]
    exact hp
  | succ j =>
    simp only [List.getElem?_cons_succ] at hq
    have h1 := h.2 j q hq
    rw [Nat.succ_mul, List.drop_append, List.drop_of_length_le (by rw [hc]; exact Nat.le_add_left _ _), List.nil_append, hc, Nat.add_sub_cancel]
    exact h1
theorem Reps.c2 {α : Type} {R : α → List Value → Prop} {ps : List α} {cs : List Value} {p : α} {va vb : Value} (hp : R p [va, vb]) (h : Reps R 2 ps cs) : Reps R 2 (p :: ps) (va :: vb :: cs) := Reps.front hp rfl h rfl
theorem Reps.c4 {α : Type} {R : α → List Value → Prop} {ps : List α} {cs : List Value} {p : α} {va vb vc vd : Value} (hp : R p [va, vb, vc, vd]) (h : Reps R 4 ps cs) : Reps R 4 (p :: ps) (va :: vb :: vc :: vd :: cs) := Reps.front hp rfl h rfl
theorem Reps.c6 {α : Type} {R : α → List Value → Prop} {ps : List α} {cs : List Value} {p : α} {va vb vc vd ve vf : Value} (hp : R p [va, vb, vc, vd, ve, vf]) (h : Reps R 6 ps cs) : Reps R 6 (p :: ps) (va :: vb :: vc :: vd :: ve :: vf :: cs) := Reps.front hp rfl h rfl
end Go.Proofs.YtgmjaggkiifdjaaDoorW.PrintWords
