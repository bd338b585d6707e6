/- Texts of this claim, one behind the other (merged by wip/prune.py of this repo, without what the proof does not use): GvRow, HOwn, HKv, HNhk, HNhk2, HAlloc, HApp, HInit, HTr, HRq, HEq, HApp2, HSet, HPeek0, HPeekS, GZz. -/
import Derived.Test.YtcbpbmflgcgmaaaDoorZA1
import Derived.Test.YtcbpbmflgcgmaaaDoorZA2
import Derived.Test.YtcbpbmflgcgmaaaDoorZA3
import Derived.Test.YtcbpbmflgcgmaaaDoorZA4
import Derived.Test.YtcbpbmflgcgmaaaDoorZA6
import Derived.Below
import Derived.BigQuiet
import Derived.Deep.LoopGhost
import Derived.Deep.QuietTactic
import Derived.KernelRfl
import Derived.Laws.BytesArg
import Derived.Laws.OwnMore
import Derived.Laws.RangeAny
import Derived.Laws.RangeString
import Derived.Laws.Slices
import Derived.Lib.AppendStr
import Derived.Lib.ConvBytes
import Derived.Lib.Hide
import Derived.Lib.SliceRun
import Derived.Lib.TrimU
import Derived.Outline
import Derived.OwnWalk
import Derived.RowKit3
import Derived.Tactics
import Derived.Test.YtcbpbmflgcgmaaaDoorProg
import Derived.WalkKit
import Derived.WalkLawsBesides
import Derived.WalkMore
import Derived.WalkSpells
import Derived.WideLaws
set_option linter.unusedVariables false
set_option linter.unusedSimpArgs false
namespace Go.Proofs.YtcbpbmflgcgmaaaDoor.Gv
open Go.RowKit Go.Proofs.YtcbpbmflgcgmaaaDoorW.PrintWords Go.Proofs.YtcbpbmflgcgmaaaDoorW.PrintLast Go.Proofs.YtcbpbmflgcgmaaaDoorW.PrintMore Go.Proofs.YtcbpbmflgcgmaaaDoor.Base
def Br (w : World) (e : TypeId) (g : Nat) (xs : List Int) : Prop :=
  ∃ cur fr, w.heap[g]? = some (.cells cur e fr) ∧ (∀ j, j < xs.length → cur[j]? = some (.int .u8 (xs.getD j 0))) ∧ ∀ j, j < xs.length → ¬ (fr.1 ≤ j ∧ j < fr.2)
theorem Br.cell {w : World} {e : TypeId} {g : Nat} {xs : List Int} (h : Br w e g xs) (j : Nat) (hj : j < xs.length) : w.cell? ⟨g, j, none⟩ = some (.int .u8 (xs.getD j 0)) := by
  obtain ⟨cur, fr, hb, hc, _⟩ := h
  simp only [World.cell?, hb]
  exact hc j hj
theorem Br.conv (w : World) (e : TypeId) (s : ByteArray) : Br (Lib.bytesWorld w e s) e w.heap.size (ns s) := by
  refine ⟨_, _, Lib.bytesWorld_at_new w e s, fun j hj => ?_, fun j hj => ?_⟩
  · rw [ns_length] at hj
    have h := Lib.bytesWorld_cell w e s j hj
    simp only [World.cell?, Lib.bytesWorld_at_new] at h
    have h2 : (ns s).getD j 0 = ((s.data.toList.getD j 0).toNat : Int) := by
      unfold ns
      rw [List.getD_eq_getElem?_getD, List.getD_eq_getElem?_getD, List.getElem?_map]
      have : j < s.data.toList.length := by rw [← Lib.size_eq]; exact hj
      rw [List.getElem?_eq_getElem this]; rfl
    rw [h2]
    simpa using h
  · rw [ns_length] at hj
    have : s.size ≤ (Lib.bytesCells w e s).size := by simp [Lib.bytesCells]
    simp only
    omega
theorem conv_below (w : World) (e : TypeId) (s : ByteArray) : Below w.heap.size w (Lib.bytesWorld w e s) :=
  ⟨rfl, rfl, rfl, by rw [Lib.bytesWorld_size]; omega, fun i hi => Lib.bytesWorld_at_old w e s i hi⟩
theorem Br.reads {w : World} {e : TypeId} {g : Nat} {xs : List Int} (h : Br w e g xs) (hl : xs.length ≤ 9223372036854775807) : ReadsOf (Value.int .u8) 0 w (some ⟨g, 0, none⟩) xs.length xs :=
  ⟨rfl, hl, fun _ => ⟨_, rfl, fun j hj => by rw [add_plain]; exact h.cell j hj⟩⟩
theorem wpList_index_tab {P : Program} {ops : Array Oper} {rest : List Oper} {o : Oper} {a : Act} {w : World} {Q : Exit → Act → World → Prop} (hgd : o.guard = none) (t : TypeId) (x i : Operand) (ho : o.op = .index t x i)
    (S : ByteArray) (n : Int) (k : IntKind) (hx : a.eval x = .string S) (hi : a.eval i = .int k n) (ht : P.underlying t = some .string) (h0 : 0 ≤ n) (h1 : n < S.size) (v : Int) (hv : bt S n = v)
    (h : wpList P ops Q rest (a.put o.dst (.int .u8 v)) w) : wpList P ops Q (o :: rest) a w :=
  wpList_plain hgd fun _ hK => by
    unfold Oper.wp execOp
    have hn : n.toNat < S.size := by omega
    have hb : ((S[n.toNat]'hn).toNat : Int) = v := by rw [← hv]; exact bt_at S n hn
    have hr : (Instr.index t (.string S) (.int k n)).run P w = .ok (.int .u8 v) w := by
      rw [← hb]
      simp [Instr.index, asIntOf, run_underlying ht, h0, hn]
    simp only [ho, hx, hi, Sem.run_bind, hr, Result.andThen_ok, Sem.run_pure]
    exact hK _ _ h
def TabIs (S : ByteArray) (f : Int → Int) : Prop := S.size = 256 ∧ ∀ n : Fin 256, bt S ((n.val : Nat) : Int) = f ((n.val : Nat) : Int)
instance (S : ByteArray) (f : Int → Int) : Decidable (TabIs S f) := inferInstanceAs (Decidable (_ ∧ _))
theorem wpList_index_fn {P : Program} {ops : Array Oper} {rest : List Oper} {o : Oper} {a : Act} {w : World} {Q : Exit → Act → World → Prop} (hgd : o.guard = none) (t : TypeId) (x i : Operand) (ho : o.op = .index t x i)
    (S : ByteArray) (n : Int) (k : IntKind) (hx : a.eval x = .string S) (hi : a.eval i = .int k n) (ht : P.underlying t = some .string) (h0 : 0 ≤ n) (h1 : n ≤ 255) (f : Int → Int) (hv : TabIs S f)
    (h : wpList P ops Q rest (a.put o.dst (.int .u8 (f n))) w) : wpList P ops Q (o :: rest) a w := by
  obtain ⟨m, rfl⟩ := Int.eq_ofNat_of_zero_le h0
  exact wpList_index_tab hgd t x i ho S _ k hx hi ht h0 (by rw [hv.1]; omega) _ (hv.2 ⟨m, by omega⟩) h
end Go.Proofs.YtcbpbmflgcgmaaaDoor.Gv
namespace Go.Proofs.YtcbpbmflgcgmaaaDoor.Own
open Go.RowKit Go.Proofs.YtcbpbmflgcgmaaaDoorW.PrintWords Go.Proofs.YtcbpbmflgcgmaaaDoorW.PrintLast Go.Proofs.YtcbpbmflgcgmaaaDoorW.PrintMore Go.Proofs.YtcbpbmflgcgmaaaDoor.Base Go.Proofs.YtcbpbmflgcgmaaaDoor.Gv
structure Stp (F : Nat → Prop) (l l' : Nat → Nat) (w w' : World) : Prop where
  os : w'.os = w.os
  tape : w'.tape = w.tape
  output : w'.output = w.output
  size : w.heap.size ≤ w'.heap.size
  lab : ∀ b, b < w.heap.size → l' b = l b
  block : ∀ b, b < w.heap.size → ¬ F (l b) → w'.heap[b]? = w.heap[b]?
theorem Stp.refl (F : Nat → Prop) (l : Nat → Nat) (w : World) : Stp F l l w w := ⟨rfl, rfl, rfl, Nat.le_refl _, fun _ _ => rfl, fun _ _ _ => rfl⟩
theorem Stp.trans {F : Nat → Prop} {l l1 l2 : Nat → Nat} {w w1 w2 : World} (h : Stp F l l1 w w1) (k : Stp F l1 l2 w1 w2) : Stp F l l2 w w2 :=
  ⟨k.os.trans h.os, k.tape.trans h.tape, k.output.trans h.output, Nat.le_trans h.size k.size, fun b hb => (k.lab b (Nat.lt_of_lt_of_le hb h.size)).trans (h.lab b hb),
    fun b hb hf => (k.block b (Nat.lt_of_lt_of_le hb h.size) (by rw [h.lab b hb]; exact hf)).trans (h.block b hb hf)⟩
theorem Stp.mono {F G : Nat → Prop} {l l1 : Nat → Nat} {w w1 : World} (h : Stp F l l1 w w1) (hf : ∀ z, F z → G z) : Stp G l l1 w w1 :=
  ⟨h.os, h.tape, h.output, h.size, h.lab, fun b hb hg => h.block b hb (fun k => hg (hf _ k))⟩
def ext (l : Nat → Nat) (n z : Nat) : Nat → Nat := fun b => if b < n then l b else z
theorem ext_old (l : Nat → Nat) {n z b : Nat} (h : b < n) : ext l n z b = l b := if_pos h
theorem ext_new (l : Nat → Nat) {n z b : Nat} (h : n ≤ b) : ext l n z b = z := if_neg (by omega)
theorem Stp.below {F : Nat → Prop} {l l1 : Nat → Nat} {w w1 : World} (h : Stp F l l1 w w1) {B : Nat} (hB : B ≤ w.heap.size) (hl : ∀ b, b < B → ¬ F (l b)) : Below B w w1 :=
  ⟨h.os, h.tape, h.output, h.size, fun b hb => h.block b (by omega) (hl b hb)⟩
theorem Stp.of_below {w w1 : World} (h : Below w.heap.size w w1) (F : Nat → Prop) (l : Nat → Nat) (z : Nat) : Stp F l (ext l w.heap.size z) w w1 :=
  ⟨h.os, h.tape, h.output, h.size, fun b hb => ext_old l hb, fun b hb _ => h.block b hb⟩
theorem Stp.of_below_same {w w1 : World} (h : Below w.heap.size w w1) (F : Nat → Prop) (l : Nat → Nat) : Stp F l l w w1 :=
  ⟨h.os, h.tape, h.output, h.size, fun b hb => rfl, fun b hb _ => h.block b hb⟩
theorem Stp.set {l : Nat → Nat} (w : World) (a : Addr) (v : Value) : Stp (· = l a.block) l l w (w.setCell a v) :=
  ⟨rfl, rfl, rfl, by simp, fun _ _ => rfl, fun b hb hf => Below.heap_setCell _ _ _ _ (fun e => hf (by rw [e]))⟩
def Cl (l : Nat → Nat) (w : World) (z p : Nat) (T : TypeId) (cs : Array Value) : Prop := w.heap[p]? = some (.cells cs T (0, 0)) ∧ l p = z
section
variable {l l1 : Nat → Nat} {w w1 : World} {z p : Nat} {T : TypeId} {cs : Array Value} {F : Nat → Prop}
theorem Cl.lt (h : Cl l w z p T cs) : p < w.heap.size := (Array.getElem?_eq_some_iff.1 h.1).1
theorem Cl.cell (h : Cl l w z p T cs) (o : Nat) : w.cell? ⟨p, o, none⟩ = cs[o]? := cell_of_row w p o _ _ (0, 0) h.1
theorem Cl.free (h : Cl l w z p T cs) (o : Nat) : w.frozen? ⟨p, o, none⟩ = false := frozen_of_row _ _ o _ _ h.1
theorem Cl.keep (h : Cl l w z p T cs) (s : Stp F l l1 w w1) (hz : ¬ F z) : Cl l1 w1 z p T cs :=
  ⟨(s.block p h.lt (by rw [h.2]; exact hz)).trans h.1, (s.lab p h.lt).trans h.2⟩
theorem Cl.set (h : Cl l w z p T cs) (o : Nat) (v : Value) : Cl l (w.setCell ⟨p, o, none⟩ v) z p T (cs.setIfInBounds o v) ∧ Stp (· = z) l l w (w.setCell ⟨p, o, none⟩ v) :=
  ⟨⟨heap_setCell_same w p o cs T v h.1, h.2⟩, by have := Stp.set (l := l) w ⟨p, o, none⟩ v; rwa [show l (⟨p, o, none⟩ : Addr).block = z from h.2] at this⟩
theorem Cl.new (l : Nat → Nat) (w : World) (z : Nat) (T : TypeId) (cs : Array Value) : Cl (ext l w.heap.size z) (w.alloc (.cells cs T)) z w.heap.size T cs ∧ Stp (fun _ => False) l (ext l w.heap.size z) w (w.alloc (.cells cs T)) :=
  ⟨⟨heap_alloc_new w _, ext_new l (Nat.le_refl _)⟩, Stp.of_below ((Below.refl _ _).alloc (Nat.le_refl _) _) _ _ _⟩
end
def Bf (l : Nat → Nat) (w : World) (z : Nat) (v : Value) (xs : List Int) : Prop := w.ownsRow 0 5 1 v xs.length (nums .u8 xs) ∧ ∀ b, v.ownBlock = some b → l b = z
section
variable {l l1 : Nat → Nat} {w w1 : World} {z : Nat} {v : Value} {xs ys : List Int} {F : Nat → Prop}
theorem Bf.nil (l : Nat → Nat) (w : World) (z : Nat) : Bf l w z (.slice none 0 0) [] := ⟨World.ownsRow_nil w 0 _ 1, fun b hb => by simp [Value.ownBlock] at hb⟩
theorem Bf.keep (h : Bf l w z v xs) (s : Stp F l l1 w w1) (hz : ¬ F z) : Bf l1 w1 z v xs := by
  obtain ⟨ho, hb⟩ := h
  refine ⟨⟨ho.1, ?_⟩, fun b e => (s.lab b (ho.lt b e).2).trans (hb b e)⟩
  rcases ho.2 with hn | ⟨g, cap, cur, rfl, h0, hg, rest⟩
  · exact .inl hn
  · have hlt := (Array.getElem?_eq_some_iff.1 hg).1
    exact .inr ⟨g, cap, cur, rfl, h0, (s.block g hlt (by rw [hb g rfl]; exact hz)).trans hg, rest⟩
theorem Bf.cut (h : Bf l w z v xs) (k : Nat) (hk : k ≤ xs.length) : ∃ A c, v = .slice A xs.length c ∧ xs.length ≤ c ∧ Bf l w z (.slice A k c) (xs.take k) := by
  obtain ⟨ho, hb⟩ := h
  have hlk : (xs.take k).length = k := by rw [List.length_take]; omega
  rcases ho.2 with ⟨rfl, hn⟩ | ⟨g, cap, cur, rfl, h0, hg, hnc, hcm, hcs, htk⟩
  · obtain rfl : xs = [] := List.eq_nil_of_length_eq_zero hn
    obtain rfl : k = 0 := by simpa using hk
    exact ⟨none, 0, rfl, Nat.le_refl _, Bf.nil l w z⟩
  · refine ⟨_, cap, rfl, hnc, ⟨by simp [nums], .inr ⟨g, cap, cur, by rw [hlk], h0, hg, by rw [hlk]; omega, hcm, hcs, ?_⟩⟩, fun b e => hb b e⟩
    have : (cur.toList.take (xs.length * 1)).take k = (nums .u8 xs).take k := by rw [htk]
    rw [List.take_take, Nat.mul_one, Nat.min_eq_left hk] at this
    rw [hlk, Nat.mul_one, this]
    simp [nums, List.map_take]
theorem Bf.slice (h : Bf l w z v xs) : ∃ A c, v = .slice A xs.length c ∧ xs.length ≤ c := by
  obtain ⟨A, c, h1, h2, _⟩ := h.cut 0 (Nat.zero_le _)
  exact ⟨A, c, h1, h2⟩
theorem Bf.cut0 {A : Option Addr} {n c : Nat} (h : Bf l w z (.slice A n c) xs) : n = xs.length ∧ Bf l w z (.slice A 0 c) [] := by
  obtain ⟨A', c', h1, h2, h3⟩ := h.cut 0 (Nat.zero_le _)
  injection h1 with e1 e2 e3
  subst e1 e3
  exact ⟨e2, by simpa using h3⟩
theorem Bf.appended (h : Bf l w z v xs) {v' : Value} (ho : w1.ownsRow 0 5 1 v' ys.length (nums .u8 ys)) (hg : w.grownBy w1 v.ownBlock) (hv : v'.ownBlock = v.ownBlock ∨ ∃ b, v'.ownBlock = some b ∧ w.heap.size ≤ b) :
    Bf (ext l w.heap.size z) w1 z v' ys ∧ Stp (· = z) l (ext l w.heap.size z) w w1 := by
  refine ⟨⟨ho, fun b e => ?_⟩, ⟨hg.os, hg.tape, hg.output, hg.size, fun b hb => ext_old l hb, fun b hb hf => hg.block b hb (fun e => hf (h.2 b e.symm))⟩⟩
  rcases hv with hv | ⟨b', hv, hs⟩
  · rw [hv] at e
    rw [ext_old l (h.1.lt b e).2]
    exact h.2 b e
  · rw [hv] at e
    injection e with e
    subst e
    exact ext_new l hs
theorem Bf.reads {A : Option Addr} {n c : Nat} (h : Bf l w z (.slice A n c) xs) : ReadsInt w .u8 A xs.length xs := by
  obtain ⟨⟨_, h1⟩, _⟩ := h
  rcases h1 with ⟨h1, hn⟩ | ⟨g, cap, cur, h1, h0, hg, hnc, hcm, hcs, htk⟩
  · injection h1 with e1 e2 e3
    subst e1 e2 e3
    obtain rfl : xs = [] := List.eq_nil_of_length_eq_zero hn
    exact ⟨rfl, by simp, fun h => by simp at h⟩
  · injection h1 with e1 e2 e3
    subst e1 e2 e3
    refine ⟨rfl, by unfold maxLen at hcm; omega, fun _ => ⟨_, rfl, fun i hi => ?_⟩⟩
    rw [Addr.add_lit, Nat.zero_add, cell_of_row w g i _ _ (0, 0) hg]
    have := congrArg (fun l => l[i]?) htk
    simp only [List.getElem?_take] at this
    rw [if_pos (by omega)] at this
    rw [Array.getElem?_toList] at this
    rw [this]
    simp [nums, List.getD_eq_getElem?_getD, List.getElem?_eq_getElem hi]
end
theorem own_some {v v1 : Value} {n : Nat} (hv : v1.ownBlock = v.ownBlock ∨ ∃ b, v1.ownBlock = some b ∧ n ≤ b) (h : v.ownBlock ≠ none) : v1.ownBlock ≠ none := by
  rcases hv with e | ⟨b, e, _⟩
  · rw [e]; exact h
  · rw [e]; exact fun k => by cases k
theorem app_row {P : Program} {ops : Array Oper} {rest : List Oper} {o : Oper} {a : Act} {Q : Exit → Act → World → Prop} {l : Nat → Nat} {W : World} (z : Nat) (hgd : o.guard = none) (s x : Operand) (t : TypeId)
    (ho : o.op = .call { callee := .builtin .append, args := #[s, x], argTypes := #[t, t] })
    (ht : P.underlying t = some (.slice 5)) (hinfo : (P.info? 5).map (fun i => (i.zero, i.size, i.bytes)) = some (some (.int .u8 0), 1, 1))
    (v : Value) (xs ys : List Int) (A : Option Addr) (m c : Nat) (hs : a.eval s = v) (hx : a.eval x = .slice A m c)
    (HO : Bf l W z v xs) (HR : ReadsInt W .u8 A m ys) (hl : xs.length + m ≤ 140737488355328)
    (h : ∀ v1 w1 l1, Bf l1 w1 z v1 (xs ++ ys) → Stp (· = z) l l1 W w1 → (v.ownBlock ≠ none → v1.ownBlock ≠ none) → wpList P ops Q rest (a.put o.dst v1) w1) :
    wpList P ops Q (o :: rest) a W :=
  print_append_row (w0 := W) 0 hgd s x t 5 .u8 1 ho ht hinfo (by decide) v xs ys A m c hs hx HO.1 HR (Below.refl _ _) (Nat.zero_le _) (by omega)
    (fun v1 w1 hown _ hg hv => (fun q => h v1 w1 _ q.1 q.2 (own_some hv)) (HO.appended hown hg hv))
theorem run_app_str {P : Program} {l : Nat → Nat} {W : World} {z : Nat} (t u ty : TypeId)
    (ht : P.underlying t = some (.slice 5)) (hu : P.underlying u = some .string) (hinfo : (P.info? 5).map (fun i => (i.zero, i.size, i.bytes)) = some (some (.int .u8 0), 1, 1))
    (v : Value) (xs : List Int) (s : ByteArray) (HO : Bf l W z v xs) (hl : xs.length + s.size ≤ 140737488355328) :
    ∃ v1 w1 l1, (Builtin.append_ #[t, u] ty #[v, .string s]).run P W = .ok v1 w1 ∧ Bf l1 w1 z v1 (xs ++ ns s) ∧ Stp (· = z) l l1 W w1 ∧ (v.ownBlock ≠ none → v1.ownBlock ≠ none) := by
  obtain ⟨i0, hi, hz0, hz1, hz2⟩ := info_parts hinfo
  have hmx : xs.length + s.size ≤ maxLen := by simp only [maxLen]; omega
  have hown := HO.1
  have hlen : (nums .u8 xs).length = xs.length := by simp [nums]
  obtain ⟨v1, w1, hr, ho, hg, _⟩ := Lib.run_append_own_string (P := P) W 0 t u ty 5 i0 ht hu hi hz0 hz1 hz2 v xs.length (nums .u8 xs) hown s hmx hl (Nat.zero_le _)
  have hat : v1.ownBlock = v.ownBlock ∨ ∃ b, v1.ownBlock = some b ∧ W.heap.size ≤ b := by
    rcases hown.2 with ⟨rfl, hn⟩ | ⟨g, cap, cur, rfl, _, hgg, hnc, hcm, hcs, htk⟩
    · obtain ⟨v2, w2, hr2, ho2, _, _⟩ := Lib.run_append_own_string (P := P) W W.heap.size t u ty 5 i0 ht hu hi hz0 hz1 hz2 (.slice none 0 0) 0 [] (World.ownsRow_nil _ _ _ _) s (by omega) (by omega) (Nat.le_refl _)
      rw [hr] at hr2
      cases hr2
      cases hb : v1.ownBlock with
      | none => exact .inl rfl
      | some b => exact .inr ⟨b, rfl, (ho2.lt b hb).1⟩
    · by_cases hroom : xs.length + s.size ≤ cap
      · rw [Lib.run_append_room_string (P := P) W t u ty 5 i0 ht hu hi hz1 g xs.length cap cur hgg s hroom (by omega)] at hr
        cases hr
        exact .inl rfl
      · rw [Lib.run_append_grow_string (P := P) W t u ty 5 i0 _ ht hu hi hz0 ⟨g, 0, none⟩ xs.length cap (nums .u8 xs) (by rw [hz1, hlen, Nat.mul_one]) (hown.cells (g := g) rfl) s (by omega) (by omega) (growslice_fits (by omega) (by rw [hz2]; omega))] at hr
        cases hr
        exact .inr ⟨_, rfl, Nat.le_refl _⟩
  have e : nums .u8 xs ++ Lib.strCells s = nums .u8 (xs ++ ns s) := by
    rw [nums_append]
    congr 1
    simp [nums, ns, Lib.strCells]
  have e2 : xs.length + s.size = (xs ++ ns s).length := by rw [List.length_append, ns_length]
  rw [e, e2] at ho
  exact ⟨v1, w1, _, hr, (HO.appended ho hg hat).1, (HO.appended ho hg hat).2, own_some hat⟩
theorem app_str {P : Program} {ops : Array Oper} {rest : List Oper} {o : Oper} {a : Act} {Q : Exit → Act → World → Prop} {l : Nat → Nat} {W : World} (z : Nat) (hgd : o.guard = none) (s x : Operand) (t u : TypeId)
    (ho : o.op = .call { callee := .builtin .append, args := #[s, x], argTypes := #[t, u] })
    (ht : P.underlying t = some (.slice 5)) (hu : P.underlying u = some .string) (hinfo : (P.info? 5).map (fun i => (i.zero, i.size, i.bytes)) = some (some (.int .u8 0), 1, 1))
    (v : Value) (xs : List Int) (y : ByteArray) (hs : a.eval s = v) (hx : a.eval x = .string y)
    (HO : Bf l W z v xs) (hl : xs.length + y.size ≤ 140737488355328)
    (h : ∀ v1 w1 l1, Bf l1 w1 z v1 (xs ++ ns y) → Stp (· = z) l l1 W w1 → (v.ownBlock ≠ none → v1.ownBlock ≠ none) → wpList P ops Q rest (a.put o.dst v1) w1) :
    wpList P ops Q (o :: rest) a W := by
  obtain ⟨v1, w1, l1, hr, hB, hS, hN⟩ := run_app_str (P := P) t u o.type ht hu hinfo v xs y HO hl
  refine wpList_plain hgd fun K hK => ?_
  unfold Oper.wp execOp
  simp only [ho, resolve, invoke, builtin, Sem.run_bind, Sem.run_pure, Result.andThen_ok, List.map_toArray, List.map_cons, List.map_nil, hs, hx, hr]
  exact hK _ _ (h v1 w1 l1 hB hS hN)
theorem app_run {P : Program} {ops : Array Oper} {rest : List Oper} {o : Oper} {a : Act} {Q : Exit → Act → World → Prop} {W w1 : World} (hgd : o.guard = none) (s x : Operand) (t u : TypeId)
    (ho : o.op = .call { callee := .builtin .append, args := #[s, x], argTypes := #[t, u] }) (V X v1 : Value) (hs : a.eval s = V) (hx : a.eval x = X)
    (hr : (Builtin.append_ #[t, u] o.type #[V, X]).run P W = .ok v1 w1) (h : wpList P ops Q rest (a.put o.dst v1) w1) : wpList P ops Q (o :: rest) a W := by
  refine wpList_plain hgd fun K hK => ?_
  unfold Oper.wp execOp
  simp only [ho, resolve, invoke, builtin, Sem.run_bind, Sem.run_pure, Result.andThen_ok, List.map_toArray, List.map_cons, List.map_nil, hs, hx, hr]
  exact hK _ _ h
end Go.Proofs.YtcbpbmflgcgmaaaDoor.Own
namespace Go.Proofs.YtcbpbmflgcgmaaaDoor.Own
open Go.RowKit Go.Proofs.YtcbpbmflgcgmaaaDoorW.PrintWords Go.Proofs.YtcbpbmflgcgmaaaDoorW.PrintLast Go.Proofs.YtcbpbmflgcgmaaaDoorW.PrintMore Go.Proofs.YtcbpbmflgcgmaaaDoor.Base Go.Proofs.YtcbpbmflgcgmaaaDoor.Gv
structure Slot where
  id : Nat
  k : Value
  kx : List Int
  v : Value
  vx : List Int
  no : Bool
def Slot.cells (s : Slot) : List Value := [s.k, s.v, .bool s.no]
def cellsOf (S : List Slot) : List Value := S.flatMap Slot.cells
theorem cellsOf_cons (s : Slot) (S : List Slot) : cellsOf (s :: S) = s.k :: s.v :: .bool s.no :: cellsOf S := rfl
theorem cellsOf_append (A B : List Slot) : cellsOf (A ++ B) = cellsOf A ++ cellsOf B := by simp [cellsOf]
theorem cellsOf_length (S : List Slot) : (cellsOf S).length = S.length * 3 := by
  induction S with
  | nil => rfl
  | cons s S ih => rw [cellsOf_cons]; simp only [List.length_cons, ih]; omega
theorem cellsOf_at : ∀ (S : List Slot) (i : Nat) (s : Slot), S[i]? = some s → ∀ j, j < 3 → (cellsOf S)[i * 3 + j]? = s.cells[j]?
  | [], _, _, h, _, _ => by simp at h
  | t :: S, 0, s, h, j, hj => by
    simp only [List.getElem?_cons_zero, Option.some.injEq] at h
    subst h
    rw [cellsOf_cons, Nat.zero_mul, Nat.zero_add]
    match j, hj with
    | 0, _ => rfl
    | 1, _ => rfl
    | 2, _ => rfl
  | t :: S, i + 1, s, h, j, hj => by
    have := cellsOf_at S i s (by simpa using h) j hj
    rw [cellsOf_cons, show (i + 1) * 3 + j = (i * 3 + j) + 1 + 1 + 1 by omega, List.getElem?_cons_succ, List.getElem?_cons_succ, List.getElem?_cons_succ]
    exact this
theorem cellsOf_set : ∀ (S : List Slot) (i : Nat) (s s' : Slot), S[i]? = some s → ∀ j u, j < 3 → s'.cells = s.cells.set j u → (cellsOf S).set (i * 3 + j) u = cellsOf (S.set i s')
  | [], _, _, _, h, _, _, _, _ => by simp at h
  | t :: S, 0, s, s', h, j, u, hj, hc => by
    simp only [List.getElem?_cons_zero, Option.some.injEq] at h
    subst h
    rw [List.set_cons_zero, cellsOf_cons, cellsOf_cons, Nat.zero_mul, Nat.zero_add]
    have h0 := congrArg (fun x => x[0]?) hc
    have h1 := congrArg (fun x => x[1]?) hc
    have h2 := congrArg (fun x => x[2]?) hc
    match j, hj with
    | 0, _ => simp [Slot.cells] at h0 h1 h2 ⊢; simp [h0, h1, h2]
    | 1, _ => simp [Slot.cells] at h0 h1 h2 ⊢; simp [h0, h1, h2]
    | 2, _ => simp [Slot.cells] at h0 h1 h2 ⊢; simp [h0, h1, h2]
  | t :: S, i + 1, s, s', h, j, u, hj, hc => by
    have := cellsOf_set S i s s' (by simpa using h) j u hj hc
    rw [cellsOf_cons, show (i + 1) * 3 + j = (i * 3 + j) + 1 + 1 + 1 by omega, List.set_cons_succ, List.set_cons_succ, List.set_cons_succ, this]
    rfl
def kLab (z id : Nat) : Nat := z + 64 * (2 * id + 1)
def vLab (z id : Nat) : Nat := z + 64 * (2 * id + 2)
def Zn (z : Nat) : Nat → Prop := fun lab => lab % 64 = z
structure Kv (l : Nat → Nat) (w : World) (z a : Nat) (S : List Slot) : Prop where
  hz : z < 64
  arr : Cl l w z a 51 (cellsOf S).toArray
  slot : ∀ s ∈ S, Bf l w (kLab z s.id) s.k s.kx ∧ Bf l w (vLab z s.id) s.v s.vx
  ids : (S.map Slot.id).Nodup
section
variable {l l1 : Nat → Nat} {w w1 : World} {z a : Nat} {S : List Slot} {F : Nat → Prop}
theorem Kv.keep (h : Kv l w z a S) (s : Stp F l l1 w w1) (hF : ∀ lab, F lab → lab % 64 ≠ z) : Kv l1 w1 z a S := by
  have hz := h.hz
  have nz : ¬ F z := fun k => hF _ k (Nat.mod_eq_of_lt hz)
  refine ⟨hz, h.arr.keep s nz, fun t ht => ⟨(h.slot t ht).1.keep s (fun k => hF _ k ?_), (h.slot t ht).2.keep s (fun k => hF _ k ?_)⟩, h.ids⟩
  · unfold kLab; omega
  · unfold vLab; omega
theorem Kv.cell (h : Kv l w z a S) {i : Nat} {s : Slot} (hs : S[i]? = some s) : w.cell? ⟨a, i * 3, none⟩ = some s.k ∧ w.cell? ⟨a, i * 3 + 1, none⟩ = some s.v ∧ w.cell? ⟨a, i * 3 + 2, none⟩ = some (.bool s.no) := by
  have h0 := cellsOf_at S i s hs 0 (by omega)
  have h1 := cellsOf_at S i s hs 1 (by omega)
  have h2 := cellsOf_at S i s hs 2 (by omega)
  refine ⟨?_, ?_, ?_⟩
  · rw [h.arr.cell, List.getElem?_toArray]; simpa [Slot.cells] using h0
  · rw [h.arr.cell, List.getElem?_toArray]; simpa [Slot.cells] using h1
  · rw [h.arr.cell, List.getElem?_toArray]; simpa [Slot.cells] using h2
theorem Kv.free (h : Kv l w z a S) (o : Nat) : w.frozen? ⟨a, o, none⟩ = false := h.arr.free o
theorem Kv.row (h : Kv l w z a S) {i : Nat} {s : Slot} (hs : S[i]? = some s) : Bf l w (kLab z s.id) s.k s.kx ∧ Bf l w (vLab z s.id) s.v s.vx := h.slot s (List.mem_of_getElem? hs)
theorem mem_set_ids {S : List Slot} {i : Nat} {s s' t : Slot} (hn : (S.map Slot.id).Nodup) (hs : S[i]? = some s) (ht : t ∈ S.set i s') : t = s' ∨ (t ∈ S ∧ t.id ≠ s.id) := by
  obtain ⟨m, hm⟩ := List.mem_iff_getElem?.1 ht
  rw [List.getElem?_set] at hm
  by_cases e : i = m
  · subst e
    rw [if_pos rfl] at hm
    split at hm
    · left; exact (Option.some.inj hm).symm
    · cases hm
  · rw [if_neg e] at hm
    refine .inr ⟨List.mem_of_getElem? hm, fun hid => e ?_⟩
    have h1 : (S.map Slot.id)[i]? = some s.id := by rw [List.getElem?_map, hs]; rfl
    have h2 : (S.map Slot.id)[m]? = some s.id := by rw [List.getElem?_map, hm]; simp [hid]
    have hi : i < (S.map Slot.id).length := (List.getElem?_eq_some_iff.1 h1).1
    exact (List.getElem?_inj hi hn).1 (h1.trans h2.symm)
theorem ids_set {S : List Slot} {i : Nat} {s s' : Slot} (hs : S[i]? = some s) (hid : s'.id = s.id) : (S.set i s').map Slot.id = S.map Slot.id := by
  rw [List.map_set, hid]
  apply List.ext_getElem?
  intro m
  rw [List.getElem?_set]
  split
  · rename_i e
    subst e
    split
    · rw [List.getElem?_map, hs]; rfl
    · rename_i h
      rw [List.getElem?_eq_none (by omega)]
  · rfl
theorem Kv.put (h : Kv l w z a S) {i : Nat} {s : Slot} (s' : Slot) (hs : S[i]? = some s) (hid : s'.id = s.id) {j : Nat} (hj : j < 3) {u : Value} (hc : s'.cells = s.cells.set j u) (st : Stp F l l1 w w1) (hF : ∀ lab, F lab → lab = kLab z s.id ∨ lab = vLab z s.id)
    (hk : Bf l1 w1 (kLab z s.id) s'.k s'.kx) (hv : Bf l1 w1 (vLab z s.id) s'.v s'.vx) : Kv l1 (w1.setCell ⟨a, i * 3 + j, none⟩ u) z a (S.set i s') ∧ Stp (Zn z) l l1 w (w1.setCell ⟨a, i * 3 + j, none⟩ u) := by
  have hz := h.hz
  have kz : ∀ id, kLab z id ≠ z := fun id => by unfold kLab; omega
  have vz : ∀ id, vLab z id ≠ z := fun id => by unfold vLab; omega
  have h1 : Cl l1 w1 z a 51 (cellsOf S).toArray := h.arr.keep st (fun k => by
    rcases hF _ k with e | e
    · exact kz _ e.symm
    · exact vz _ e.symm)
  obtain ⟨h2, st2⟩ := h1.set (i * 3 + j) u
  have e : (cellsOf S).toArray.setIfInBounds (i * 3 + j) u = (cellsOf (S.set i s')).toArray := by
    rw [← cellsOf_set S i s s' hs j u hj hc, List.setIfInBounds_toArray]
  rw [e] at h2
  refine ⟨⟨hz, h2, fun t ht => ?_, by rw [ids_set hs hid]; exact h.ids⟩, ⟨st2.os.trans st.os, st2.tape.trans st.tape, st2.output.trans st.output, Nat.le_trans st.size st2.size, st.lab, fun b hb hf => ?_⟩⟩
  · rcases mem_set_ids h.ids hs ht with rfl | ⟨ht', hne⟩
    · rw [hid]
      exact ⟨hk.keep st2 (fun e => kz _ e), hv.keep st2 (fun e => vz _ e)⟩
    · have hb := h.slot t ht'
      refine ⟨(hb.1.keep st (fun k => ?_)).keep st2 (fun e => kz _ e), (hb.2.keep st (fun k => ?_)).keep st2 (fun e => vz _ e)⟩
      · rcases hF _ k with e | e
        · unfold kLab at e; omega
        · unfold kLab vLab at e; omega
      · rcases hF _ k with e | e
        · unfold kLab vLab at e; omega
        · unfold vLab at e; omega
  · refine (st2.block b (Nat.lt_of_lt_of_le hb st.size) (fun e => hf ?_)).trans (st.block b hb (fun k => hf ?_))
    · rw [st.lab b hb] at e
      unfold Zn
      rw [e]
      exact Nat.mod_eq_of_lt hz
    · unfold Zn
      rcases hF _ k with e | e
      · rw [e]; unfold kLab; omega
      · rw [e]; unfold vLab; omega
theorem Kv.storeK (h : Kv l w z a S) {i : Nat} {s : Slot} (hs : S[i]? = some s) {v1 : Value} {ys : List Int} (hb : Bf l1 w1 (kLab z s.id) v1 ys) (st : Stp (· = kLab z s.id) l l1 w w1) :
    Kv l1 (w1.setCell ⟨a, i * 3, none⟩ v1) z a (S.set i { s with k := v1, kx := ys }) ∧ Stp (Zn z) l l1 w (w1.setCell ⟨a, i * 3, none⟩ v1) :=
  h.put (j := 0) { s with k := v1, kx := ys } hs rfl (by omega) rfl st (fun _ e => .inl e) hb ((h.row hs).2.keep st (fun e => by unfold kLab vLab at e; omega))
theorem Kv.storeV (h : Kv l w z a S) {i : Nat} {s : Slot} (hs : S[i]? = some s) {v1 : Value} {ys : List Int} (hb : Bf l1 w1 (vLab z s.id) v1 ys) (st : Stp (· = vLab z s.id) l l1 w w1) :
    Kv l1 (w1.setCell ⟨a, i * 3 + 1, none⟩ v1) z a (S.set i { s with v := v1, vx := ys }) ∧ Stp (Zn z) l l1 w (w1.setCell ⟨a, i * 3 + 1, none⟩ v1) :=
  h.put (j := 1) { s with v := v1, vx := ys } hs rfl (by omega) rfl st (fun _ e => .inr e) ((h.row hs).1.keep st (fun e => by unfold kLab vLab at e; omega)) hb
theorem Kv.storeN (h : Kv l w z a S) {i : Nat} {s : Slot} (hs : S[i]? = some s) (b : Bool) :
    Kv l (w.setCell ⟨a, i * 3 + 2, none⟩ (.bool b)) z a (S.set i { s with no := b }) ∧ Stp (Zn z) l l w (w.setCell ⟨a, i * 3 + 2, none⟩ (.bool b)) :=
  h.put (j := 2) { s with no := b } hs rfl (by omega) rfl (Stp.refl (fun _ => False) l w) (fun _ e => e.elim) (h.row hs).1 (h.row hs).2
end
def KvS (l : Nat → Nat) (w : World) (z : Nat) (V : Value) (n : Nat) (S : List Slot) : Prop :=
  z < 64 ∧ (∀ s ∈ S.take n, s.v.ownBlock ≠ none) ∧ ((V = .slice none 0 0 ∧ S = [] ∧ n = 0) ∨ ∃ a, V = .slice (some ⟨a, 0, none⟩) n S.length ∧ n ≤ S.length ∧ S.length ≤ maxLen ∧ Kv l w z a S)
theorem KvS.keep {l l1 : Nat → Nat} {w w1 : World} {z n : Nat} {V : Value} {S : List Slot} {F : Nat → Prop} (h : KvS l w z V n S) (s : Stp F l l1 w w1) (hF : ∀ lab, F lab → lab % 64 ≠ z) : KvS l1 w1 z V n S := by
  obtain ⟨hz, hn, h | ⟨a, h1, h2, h3, h4⟩⟩ := h
  · exact ⟨hz, hn, .inl h⟩
  · exact ⟨hz, hn, .inr ⟨a, h1, h2, h3, h4.keep s hF⟩⟩
theorem KvS.nil (l : Nat → Nat) (w : World) (z : Nat) (hz : z < 64) : KvS l w z (.slice none 0 0) 0 [] := ⟨hz, by simp, .inl ⟨rfl, rfl, rfl⟩⟩
theorem KvS.le {l : Nat → Nat} {w : World} {z n : Nat} {V : Value} {S : List Slot} (h : KvS l w z V n S) : n ≤ S.length := by
  obtain ⟨_, _, ⟨_, rfl, rfl⟩ | ⟨a, _, h, _⟩⟩ := h
  · exact Nat.le_refl _
  · exact h
structure KVx where
  k : List Int
  v : List Int
  no : Bool
def kvs (S : List Slot) (n : Nat) : List KVx := (S.take n).map fun s => ⟨s.kx, s.vx, s.no⟩
theorem kvs_length {S : List Slot} {n : Nat} (h : n ≤ S.length) : (kvs S n).length = n := by unfold kvs; rw [List.length_map, List.length_take]; omega
theorem kvs_at {S : List Slot} {n i : Nat} {s : Slot} (h : S[i]? = some s) (hi : i < n) : (kvs S n)[i]? = some ⟨s.kx, s.vx, s.no⟩ := by
  unfold kvs
  rw [List.getElem?_map, List.getElem?_take, if_pos hi, h]; rfl
theorem kvs_set {S : List Slot} {n i : Nat} {s' : Slot} (hi : i < n) : kvs (S.set i s') n = (kvs S n).set i ⟨s'.kx, s'.vx, s'.no⟩ := by
  unfold kvs
  rw [List.take_set, List.map_set]
end Go.Proofs.YtcbpbmflgcgmaaaDoor.Own
namespace Go.Proofs.YtcbpbmflgcgmaaaDoor.Own
open Go.RowKit Go.Proofs.YtcbpbmflgcgmaaaDoorW.PrintWords Go.Proofs.YtcbpbmflgcgmaaaDoorW.PrintLast Go.Proofs.YtcbpbmflgcgmaaaDoorW.PrintMore Go.Proofs.YtcbpbmflgcgmaaaDoor.Base Go.Proofs.YtcbpbmflgcgmaaaDoor.Gv
def BrO (w : World) (e : TypeId) (g o : Nat) (xs : List Int) : Prop :=
  ∃ cur fr, w.heap[g]? = some (.cells cur e fr) ∧ (∀ j, j < xs.length → cur[o + j]? = some (.int .u8 (xs.getD j 0))) ∧ ∀ j, j < xs.length → ¬ (fr.1 ≤ o + j ∧ o + j < fr.2)
theorem BrO.cell {w : World} {e : TypeId} {g o : Nat} {xs : List Int} (h : BrO w e g o xs) (j : Nat) (hj : j < xs.length) : w.cell? ⟨g, o + j, none⟩ = some (.int .u8 (xs.getD j 0)) := by
  obtain ⟨cur, fr, hb, hc, _⟩ := h
  simp only [World.cell?, hb]
  exact hc j hj
theorem BrO.free {w : World} {e : TypeId} {g o : Nat} {xs : List Int} (h : BrO w e g o xs) (j : Nat) (hj : j < xs.length) : w.frozen? ⟨g, o + j, none⟩ = false := by
  obtain ⟨cur, fr, hb, _, hf⟩ := h
  have := hf j hj
  obtain ⟨lo, hi⟩ := fr
  simp only [World.frozen?, hb]
  simp only [Bool.and_eq_false_iff, decide_eq_false_iff_not]
  simp only at this
  omega
theorem BrO.set {w : World} {e : TypeId} {g o : Nat} {xs : List Int} (h : BrO w e g o xs) (j : Nat) (v : Int) : BrO (w.setCell ⟨g, o + j, none⟩ (.int .u8 v)) e g o (xs.set j v) := by
  obtain ⟨cur, fr, hb, hc, hf⟩ := h
  refine ⟨cur.setIfInBounds (o + j) (.int .u8 v), fr, ?_, fun i hi => ?_, fun i hi => hf i (by simpa using hi)⟩
  · simp only [World.setCell, Array.getElem?_modify, if_true, hb, Option.map_some, Option.isSome_none, Bool.false_eq_true, if_false]
  · have hi' : i < xs.length := by simpa using hi
    have h1 := hc i hi'
    have hlt : o + i < cur.size := (Array.getElem?_eq_some_iff.1 h1).1
    rw [Array.getElem?_setIfInBounds, List.getD_eq_getElem?_getD, List.getElem?_set]
    by_cases e1 : j = i
    · subst e1; simp [hlt, hi']
    · rw [if_neg (by omega), if_neg e1, h1, List.getD_eq_getElem?_getD]
structure OnlyO (g o n : Nat) (w w' : World) : Prop where
  os : w'.os = w.os
  tape : w'.tape = w.tape
  output : w'.output = w.output
  size : w'.heap.size = w.heap.size
  others : ∀ i, i ≠ g → w'.heap[i]? = w.heap[i]?
  own : ∀ cur e fr, w.heap[g]? = some (.cells cur e fr) → ∃ cur', w'.heap[g]? = some (.cells cur' e fr) ∧ cur'.size = cur.size ∧ ∀ j, (j < o ∨ o + n ≤ j) → cur'[j]? = cur[j]?
theorem OnlyO.refl (g o n : Nat) (w : World) : OnlyO g o n w w := ⟨rfl, rfl, rfl, rfl, fun _ _ => rfl, fun cur e fr h => ⟨cur, h, rfl, fun _ _ => rfl⟩⟩
theorem OnlyO.set {g o n : Nat} {w w' : World} (h : OnlyO g o n w w') (j : Nat) (hj : j < n) (v : Value) : OnlyO g o n w (w'.setCell ⟨g, o + j, none⟩ v) := by
  refine ⟨h.os, h.tape, h.output, by rw [World.size_setCell]; exact h.size, fun i hi => ?_, fun cur e fr hb => ?_⟩
  · rw [heap_setCell_other w' ⟨g, o + j, none⟩ i v hi]
    exact h.others i hi
  · obtain ⟨cur', h1, h2, h3⟩ := h.own cur e fr hb
    refine ⟨cur'.setIfInBounds (o + j) v, ?_, by simpa using h2, fun i hi => ?_⟩
    · simp only [World.setCell, Array.getElem?_modify, if_true, h1, Option.map_some, Option.isSome_none, Bool.false_eq_true, if_false]
    · rw [Array.getElem?_setIfInBounds, if_neg (by omega)]
      exact h3 i hi
theorem getD_mid (out rest : List Int) (x : Int) : (out ++ x :: rest).getD out.length 0 = x := by
  rw [List.getD_eq_getElem?_getD, List.getElem?_append_right (Nat.le_refl _), Nat.sub_self]; rfl
theorem set_mid (out rest : List Int) (x v : Int) : (out ++ x :: rest).set out.length v = (out ++ [v]) ++ rest := by
  rw [List.set_append_right _ _ (Nat.le_refl _), Nat.sub_self, List.set_cons_zero, List.append_assoc]; rfl
set_option maxHeartbeats 4000000 in
set_option maxRecDepth 100000 in
theorem nhkO_calls (w : World) (g o n cap : Nat) (xs : List Int) (hn : xs.length = n) (hr : ∀ x ∈ xs, 0 ≤ x ∧ x ≤ 255) (hl : n ≤ 4611686018427387904) (hb : BrO w 5 g o xs) :
    Calls Tryd.prog 72 #[.slice (some ⟨g, o, none⟩) n cap, .bool false] w fun e w' => e = .returned (.tuple #[]) ∧ BrO w' 5 g o (nk xs) ∧ OnlyO g o n w w' := by
  cases xs with
  | nil =>
    obtain rfl : n = 0 := by simpa using hn.symm
    clear hr hl hn
    have HB := Lib.hid hb
    clear hb
    go_enter Tryd.func72, Tryd.ntmps72
    go_wp2
    exact bodyPost_ret (results_none rfl _ _ _) rfl ⟨rfl, HB.out, OnlyO.refl _ _ _ _⟩
  | cons a l =>
    have hcell : w.cell? ⟨g, o, none⟩ = some (.int .u8 a) := by have := hb.cell 0 (by simp); simpa using this
    have hfree : w.frozen? ⟨g, o, none⟩ = false := by have := hb.free 0 (by simp); simpa using this
    have ha := hr a (by simp)
    have hset : BrO (w.setCell ⟨g, o, none⟩ (.int .u8 (up a))) 5 g o ([up a] ++ l) := by
      have h := hb.set 0 (up a)
      simpa using h
    have honly : OnlyO g o n w (w.setCell ⟨g, o, none⟩ (.int .u8 (up a))) := by have := (OnlyO.refl g o n w).set 0 (by rw [← hn]; simp) (.int .u8 (up a)); simpa using this
    have hlen : Hid ([up a].length + l.length = n) := Lib.hid (by rw [← hn]; simp; omega)
    have hrl : Hid (∀ x ∈ l, 0 ≤ x ∧ x ≤ 255) := Lib.hid (fun x hx => hr x (List.mem_cons_of_mem _ hx))
    have hnk : Hid (nk (a :: l) = [up a] ++ nkTail l) := Lib.hid rfl
    have hpos : 1 ≤ n := by rw [← hn]; simp
    obtain ⟨res, hres⟩ : ∃ res, nk (a :: l) = res := ⟨_, rfl⟩
    have hnk' : Hid (res = [up a] ++ nkTail l) := Lib.hid (by rw [← hres]; exact hnk.out)
    rw [hres]
    have HSET := Lib.hid hset
    have HONLY := Lib.hid honly
    clear hset honly hb hr hnk hres hn
    have hne : ((n : Int) == 0) = false := beq_eq_false_iff_ne.2 (by omega)
    go_enter Tryd.func72, Tryd.ntmps72
    go_wp2_with (refine wpList_index_fn rfl 9 _ _ rfl _ _ .u8 rfl rfl Tryd.underlying9 ha.1 ha.2 up ?tb ?_; case tb => decide +kernel)
    go_loopw [5] (fun i wr => ∃ (k : Nat) (out rest : List Int), i = .int .i64 k ∧ (k = out.length ∨ (k = out.length + 1 ∧ rest = [])) ∧ Hid (out.length + rest.length = n) ∧ Hid (∀ x ∈ rest, 0 ≤ x ∧ x ≤ 255) ∧ Hid (res = out ++ nkTail rest) ∧ Hid (BrO wr 5 g o (out ++ rest)) ∧ Hid (OnlyO g o n w wr)) (fun i _ => n + 1 - (intOf i).toNat)
    case atStart => exact ⟨1, [up a], l, rfl, .inl rfl, hlen, hrl, hnk', HSET, HONLY⟩
    case round =>
      obtain ⟨k, out, rest, rfl, hk, Hlen, Hr, Hnk, HBr, HO⟩ := hrel
      cases rest with
      | nil =>
        have hge : n ≤ k := by have := Hlen.out; simp only [List.length_nil] at this; omega
        have hfin : Hid (res = out ++ []) := Lib.hid Hnk.out
        clear hk Hr Hnk Hlen
        go_wp2
        go_end0
        exact ⟨rfl, by rw [hfin.out]; exact HBr.out, HO.out⟩
      | cons x rest =>
        have hko : k = out.length := by
          rcases hk with hk | ⟨_, hk⟩
          · exact hk
          · cases hk
        have hlt : k < n := by have := Hlen.out; simp only [List.length_cons] at this; omega
        have hin : k < (out ++ x :: rest).length := by rw [List.length_append, List.length_cons]; omega
        have hcell := HBr.out.cell k hin
        have hfree := HBr.out.free k hin
        rw [hko, getD_mid, ← hko] at hcell
        have hx := Hr.out x (by simp)
        have Hko := Lib.hid hko
        clear hk hko hin
        by_cases h45 : x = 45
        · subst h45
          cases rest with
          | nil =>
            have hk1 : n ≤ k + 1 := by have h1 := Hlen.out; have h2 := Hko.out; simp only [List.length_cons, List.length_nil] at h1; omega
            have hend : Hid (res = (out ++ [45]) ++ nkTail []) := Lib.hid (by rw [Hnk.out, nkTail_hyp1]; simp only [nkTail, List.append_nil])
            have hl1 : Hid ((out ++ [(45 : Int)]).length + ([] : List Int).length = n) := Lib.hid (by have := Hlen.out; simp only [List.length_append, List.length_cons, List.length_nil] at this ⊢; omega)
            clear hfree hx
            go_wp2
            go_roundw
            case rel => exact ⟨k + 1 + 1, out ++ [45], [], by go_num, .inr ⟨by have := Hko.out; simp only [List.length_append, List.length_cons, List.length_nil]; omega, rfl⟩, hl1, Lib.hid (by simp), hend, Lib.hid (by rw [List.append_nil]; exact HBr.out), HO⟩
            case measure => simp [intOf]; omega
          | cons y rest =>
            have hk1 : k + 1 < n := by have h1 := Hlen.out; have h2 := Hko.out; simp only [List.length_cons] at h1; omega
            have hy := Hr.out y (by simp)
            have e1 : out ++ 45 :: y :: rest = (out ++ [45]) ++ y :: rest := by simp
            have hol : (out ++ [(45 : Int)]).length = k + 1 := by rw [List.length_append, ← Hko.out]; rfl
            have HB1 : BrO wr 5 g o ((out ++ [45]) ++ y :: rest) := by rw [← e1]; exact HBr.out
            have hin1 : k + 1 < ((out ++ [(45 : Int)]) ++ y :: rest).length := by rw [List.length_append, List.length_cons, hol]; omega
            have hcell1 := HB1.cell (k + 1) hin1
            have hfree1 := HB1.free (k + 1) hin1
            rw [← hol, getD_mid, hol] at hcell1
            have hset : Hid (BrO (wr.setCell ⟨g, o + (k + 1), none⟩ (.int .u8 (up y))) 5 g o ((out ++ [45] ++ [up y]) ++ rest)) := Lib.hid (by
              have h := HB1.set (k + 1) (up y)
              rw [← hol, set_mid, hol] at h
              exact h)
            have hO1 : Hid (OnlyO g o n w (wr.setCell ⟨g, o + (k + 1), none⟩ (.int .u8 (up y)))) := Lib.hid (HO.out.set (k + 1) hk1 _)
            have hend : Hid (res = (out ++ [45] ++ [up y]) ++ nkTail rest) := Lib.hid (by rw [Hnk.out, nkTail_hyp]; simp)
            have hl1 : Hid ((out ++ [(45 : Int)] ++ [up y]).length + rest.length = n) := Lib.hid (by have := Hlen.out; simp only [List.length_append, List.length_cons, List.length_nil] at this ⊢; omega)
            have hr1 : Hid (∀ z ∈ rest, 0 ≤ z ∧ z ≤ 255) := Lib.hid (fun z hz => Hr.out z (by simp [hz]))
            have hko1 : Hid (k + 1 + 1 = (out ++ [(45 : Int)] ++ [up y]).length) := Lib.hid (by have := Hko.out; simp only [List.length_append, List.length_cons, List.length_nil]; omega)
            clear e1 hol HB1 hin1 hfree hx
            go_wp2_with (refine wpList_index_fn rfl 9 _ _ rfl _ _ .u8 rfl rfl Tryd.underlying9 hy.1 hy.2 up ?tb ?_; case tb => decide +kernel)
            go_roundw
            case rel => exact ⟨k + 1 + 1, out ++ [45] ++ [up y], rest, by go_num, .inl hko1.out, hl1, hr1, hend, hset, hO1⟩
            case measure => simp [intOf]; omega
        · have h45b : (x == 45) = false := beq_eq_false_iff_ne.2 h45
          have hset : Hid (BrO (wr.setCell ⟨g, o + k, none⟩ (.int .u8 (lo x))) 5 g o ((out ++ [lo x]) ++ rest)) := Lib.hid (by
            have h := HBr.out.set k (lo x)
            rw [Hko.out, set_mid, ← Hko.out] at h
            exact h)
          have hO1 : Hid (OnlyO g o n w (wr.setCell ⟨g, o + k, none⟩ (.int .u8 (lo x)))) := Lib.hid (HO.out.set k hlt _)
          have hend : Hid (res = (out ++ [lo x]) ++ nkTail rest) := Lib.hid (by rw [Hnk.out, nkTail_other x rest h45]; simp)
          have hl1 : Hid ((out ++ [lo x]).length + rest.length = n) := Lib.hid (by have := Hlen.out; simp only [List.length_append, List.length_cons, List.length_nil] at this ⊢; omega)
          have hr1 : Hid (∀ z ∈ rest, 0 ≤ z ∧ z ≤ 255) := Lib.hid (fun z hz => Hr.out z (by simp [hz]))
          have hko1 : Hid (k + 1 = (out ++ [lo x]).length) := Lib.hid (by have := Hko.out; simp only [List.length_append, List.length_cons, List.length_nil]; omega)
          clear h45
          go_wp2_with (refine wpList_index_fn rfl 9 _ _ rfl _ _ .u8 rfl rfl Tryd.underlying9 hx.1 hx.2 lo ?tb ?_; case tb => decide +kernel)
          go_roundw
          case rel => exact ⟨k + 1, out ++ [lo x], rest, by go_num, .inl hko1.out, hl1, hr1, hend, hset, hO1⟩
          case measure => simp [intOf]; omega
theorem nhk_true (w : World) (v : Value) : Calls Tryd.prog 72 #[v, .bool true] w fun e w' => e = .returned (.tuple #[]) ∧ w' = w := by
  go_enter Tryd.func72, Tryd.ntmps72
  go_wp2
  exact bodyPost_ret (results_none rfl _ _ _) rfl ⟨rfl, rfl⟩
theorem nhk_nil (w : World) (c : Nat) : Calls Tryd.prog 72 #[.slice none 0 c, .bool false] w fun e w' => e = .returned (.tuple #[]) ∧ w' = w := by
  go_enter Tryd.func72, Tryd.ntmps72
  go_wp2
  exact bodyPost_ret (results_none rfl _ _ _) rfl ⟨rfl, rfl⟩
def nkd (dn : Bool) (xs : List Int) : List Int := if dn = true then xs else nk xs
theorem nkd_length (dn : Bool) (xs : List Int) : (nkd dn xs).length = xs.length := by
  unfold nkd
  split
  · rfl
  · exact nk_length xs
theorem OnlyO.stp {g o n : Nat} {w w' : World} (h : OnlyO g o n w w') (l : Nat → Nat) : Stp (· = l g) l l w w' :=
  ⟨h.os, h.tape, h.output, by rw [h.size]; exact Nat.le_refl _, fun _ _ => rfl, fun b _ hf => h.others b (fun e => hf (by rw [e]))⟩
theorem Bf.anew {l : Nat → Nat} {w w' : World} {z g c : Nat} {xs ys : List Int} (h : Bf l w z (.slice (some ⟨g, 0, none⟩) xs.length c) xs) (hl : ys.length = xs.length) (hb : BrO w' 5 g 0 ys) (ho : OnlyO g 0 xs.length w w') : Bf l w' z (.slice (some ⟨g, 0, none⟩) xs.length c) ys := by
  obtain ⟨⟨h1, h2⟩, h3⟩ := h
  rcases h2 with ⟨h2, _⟩ | ⟨g', cap, cur, e, h0, hg, hnc, hcm, hcs, htk⟩
  · cases h2
  · injection e with e1 e2 e3
    injection e1 with e1
    injection e1 with e1
    subst e1 e3
    obtain ⟨cur', k1, k2, k3⟩ := ho.own cur _ _ hg
    obtain ⟨cur2, fr2, j1, j2, _⟩ := hb
    rw [k1] at j1
    injection j1 with j1
    injection j1 with j1 _ _
    subst j1
    refine ⟨⟨by simp [nums], .inr ⟨g, c, cur', by rw [hl], h0, k1, by rw [hl]; exact hnc, hcm, by rw [k2]; exact hcs, ?_⟩⟩, h3⟩
    apply List.ext_getElem?
    intro j
    rw [Nat.mul_one, List.getElem?_take]
    unfold nums
    rw [List.getElem?_map]
    by_cases hj : j < ys.length
    · have := j2 j hj
      rw [Nat.zero_add] at this
      rw [if_pos hj, Array.getElem?_toList, this, List.getD_eq_getElem?_getD, List.getElem?_eq_getElem hj]
      rfl
    · rw [if_neg hj, List.getElem?_eq_none (by omega)]
      rfl
theorem Bf.br {l : Nat → Nat} {w : World} {z g c : Nat} {xs : List Int} (h : Bf l w z (.slice (some ⟨g, 0, none⟩) xs.length c) xs) : BrO w 5 g 0 xs := by
  obtain ⟨⟨h1, h2⟩, h3⟩ := h
  rcases h2 with ⟨h2, _⟩ | ⟨g', cap, cur, e, h0, hg, hnc, hcm, hcs, htk⟩
  · cases h2
  · injection e with e1 e2 e3
    injection e1 with e1
    injection e1 with e1
    subst e1 e3
    refine ⟨cur, (0, 0), hg, fun j hj => ?_, fun j hj => by simp⟩
    rw [Nat.zero_add]
    have := congrArg (fun q => q[j]?) htk
    simp only [List.getElem?_take] at this
    rw [if_pos (by omega), Array.getElem?_toList] at this
    rw [this]
    simp [nums, List.getD_eq_getElem?_getD, List.getElem?_eq_getElem hj]
theorem nhk_bf (l : Nat → Nat) (w : World) (z : Nat) (A : Option Addr) (c : Nat) (xs : List Int) (dn : Bool) (h : Bf l w z (.slice A xs.length c) xs) (hr : ∀ x ∈ xs, 0 ≤ x ∧ x ≤ 255) (hl : xs.length ≤ 4611686018427387904) :
    Calls Tryd.prog 72 #[.slice A xs.length c, .bool dn] w fun e w' => e = .returned (.tuple #[]) ∧ Bf l w' z (.slice A xs.length c) (nkd dn xs) ∧ Stp (· = z) l l w w' := by
  cases dn with
  | true =>
    refine (nhk_true w _).mono ?_
    rintro e w' ⟨rfl, rfl⟩
    exact ⟨rfl, h, Stp.refl _ _ _⟩
  | false =>
    by_cases h0 : A = none
    · subst h0
      have hx : xs = [] := by
        rcases h.1.2 with ⟨_, hn⟩ | ⟨g, cap, cur, e, _⟩
        · exact List.eq_nil_of_length_eq_zero hn
        · cases e
      subst hx
      refine (nhk_nil w c).mono ?_
      rintro e w' ⟨rfl, rfl⟩
      exact ⟨rfl, h, Stp.refl _ _ _⟩
    · obtain ⟨g, rfl⟩ : ∃ g, A = some ⟨g, 0, none⟩ := by
        rcases h.1.2 with ⟨e, _⟩ | ⟨g, cap, cur, e, _⟩
        · injection e with e _ _; exact absurd e h0
        · injection e with e _ _; exact ⟨g, e⟩
      refine (nhkO_calls w g 0 xs.length c xs rfl hr hl h.br).mono ?_
      rintro e w' ⟨rfl, h1, h2⟩
      have hlg : l g = z := h.2 g rfl
      have st := h2.stp l
      rw [hlg] at st
      exact ⟨rfl, h.anew (nk_length xs) h1 h2, st⟩
def zSlot (id : Nat) : Slot := ⟨id, .slice none 0 0, [], .slice none 0 0, [], false⟩
def zSlots (id : Nat) : Nat → List Slot
  | 0 => []
  | m + 1 => zSlot id :: zSlots (id + 1) m
theorem zSlots_length : ∀ (m id : Nat), (zSlots id m).length = m
  | 0, _ => rfl
  | m + 1, id => by simp [zSlots, zSlots_length m]
theorem zSlots_mem : ∀ (m id : Nat) (s : Slot), s ∈ zSlots id m → ∃ j, id ≤ j ∧ s = zSlot j
  | 0, _, _, h => by cases h
  | m + 1, id, s, h => by
    rcases List.mem_cons.1 h with rfl | h
    · exact ⟨id, Nat.le_refl _, rfl⟩
    · obtain ⟨j, h1, h2⟩ := zSlots_mem m (id + 1) s h
      exact ⟨j, by omega, h2⟩
theorem zSlots_ids : ∀ (m id : Nat), ((zSlots id m).map Slot.id).Nodup
  | 0, _ => by simp [zSlots]
  | m + 1, id => by
    rw [zSlots, List.map_cons, List.nodup_cons]
    refine ⟨fun h => ?_, zSlots_ids m (id + 1)⟩
    obtain ⟨s, hs, he⟩ := List.mem_map.1 h
    obtain ⟨j, hj, rfl⟩ := zSlots_mem m (id + 1) s hs
    have : j = id := he
    omega
def zarr : Array Value := #[.slice none 0 0, .slice none 0 0, .bool false]
theorem zc_at (m j : Nat) : (Builtin.zeroCells zarr m).toList[j]? = if j < m * 3 then some (zarr[j % 3]!) else none := by
  have hs : zarr.size = 3 := rfl
  unfold Builtin.zeroCells
  rw [hs, Array.getElem?_toList, Array.getElem?_map, Array.getElem?_range]
  split <;> rfl
theorem zero_cells : ∀ (m id : Nat), (Builtin.zeroCells zarr m).toList = cellsOf (zSlots id m)
  | 0, id => by simp [Builtin.zeroCells, zSlots, cellsOf]
  | m + 1, id => by
    have ih := zero_cells m (id + 1)
    rw [zSlots, cellsOf_cons, ← ih]
    apply List.ext_getElem?
    intro j
    rw [zc_at]
    match j with
    | 0 => rw [if_pos (by omega)]; rfl
    | 1 => rw [if_pos (by omega)]; rfl
    | 2 => rw [if_pos (by omega)]; rfl
    | j + 3 =>
      rw [List.getElem?_cons_succ, List.getElem?_cons_succ, List.getElem?_cons_succ, zc_at, show (j + 3) % 3 = j % 3 by omega]
      by_cases h : j < m * 3
      · rw [if_pos h, if_pos (by omega)]
      · rw [if_neg h, if_neg (by omega)]
def topId (S : List Slot) : Nat := S.foldr (fun s m => max (s.id + 1) m) 0
theorem topId_lt (S : List Slot) : ∀ s ∈ S, s.id < topId S := by
  induction S with
  | nil => intro s h; cases h
  | cons t S ih =>
    intro s h
    have e : topId (t :: S) = max (t.id + 1) (topId S) := rfl
    rcases List.mem_cons.1 h with rfl | h
    · omega
    · have := ih s h; omega
theorem nodup_more {S : List Slot} (h : (S.map Slot.id).Nodup) (m : Nat) (s : Slot) (hs : s.id = topId S) : ((S ++ s :: zSlots (topId S + 1) m).map Slot.id).Nodup := by
  rw [List.map_append, List.nodup_append]
  refine ⟨h, ?_, fun x hx y hy => ?_⟩
  · rw [List.map_cons, List.nodup_cons]
    refine ⟨fun h => ?_, zSlots_ids m _⟩
    obtain ⟨t, ht, he⟩ := List.mem_map.1 h
    obtain ⟨j, hj, rfl⟩ := zSlots_mem m _ t ht
    have : j = s.id := he
    omega
  · obtain ⟨t, ht, rfl⟩ := List.mem_map.1 hx
    have h1 := topId_lt S t ht
    obtain ⟨u, hu, rfl⟩ := List.mem_map.1 hy
    rcases List.mem_cons.1 hu with rfl | hu
    · omega
    · obtain ⟨j, hj, rfl⟩ := zSlots_mem m _ u hu
      show t.id ≠ j
      omega
theorem run_grow_kv {l : Nat → Nat} {w W : World} {z n g0 : Nat} {V : Value} {S : List Slot} (ty : TypeId) (ad : Addr) (c : Nat)
    (hinfo : (Tryd.prog.info? 51).map (fun i => (i.zero, i.size, i.bytes)) = some (some (.agg zarr), 3, 56))
    (h : KvS l w z V n S) (hfull : n = S.length) (hn : n ≤ 1099511627776) (hw : Below w.heap.size w W) (hg0 : w.heap.size ≤ g0) (hg : W.heap[g0]? = some (.cells #[] 5 (0, 0)))
    (c0 : W.cell? (ad.add 0) = some (.slice none 0 0)) (c1 : W.cell? (ad.add 1) = some (.slice (some ⟨g0, 0, none⟩) 0 0)) (c2 : W.cell? (ad.add 2) = some (.bool false)) :
    ∃ l1 w1 a S1 s, (Builtin.append_ #[49, 49] ty #[V, .slice (some ad) 1 c]).run Tryd.prog W = .ok (.slice (some ⟨a, 0, none⟩) (n + 1) S1.length) w1 ∧
      Kv l1 w1 z a S1 ∧ n < S1.length ∧ S1.length ≤ maxLen ∧ S1.take n = S ∧ S1[n]? = some s ∧ s.v.ownBlock ≠ none ∧ Stp (Zn z) l l1 w w1 := by
  obtain ⟨i0, hi, hz0, hz1, hz2⟩ := info_parts hinfo
  obtain ⟨hz, hnn, hV⟩ := h
  have hnews : ∀ j u, ([.slice none 0 0, .slice (some ⟨g0, 0, none⟩) 0 0, .bool false] : List Value)[j]? = some u → W.cell? (ad.add j) = some u := by
    intro j u hu
    match j with
    | 0 => simp at hu; rw [← hu]; exact c0
    | 1 => simp at hu; rw [← hu]; exact c1
    | 2 => simp at hu; rw [← hu]; exact c2
    | j + 3 => simp at hu
  -- what the new row holds, whatever was there
  have fin : ∀ old : Nat, (∀ s ∈ S, Bf l w (kLab z s.id) s.k s.kx ∧ Bf l w (vLab z s.id) s.v s.vx) → (S.map Slot.id).Nodup → ∃ l1 S1 s,
      Kv l1 (W.drew.alloc (.cells ((cellsOf S).toArray ++ #[.slice none 0 0, .slice (some ⟨g0, 0, none⟩) 0 0, .bool false] ++ Builtin.zeroCells zarr (grownCap W (n + 1) old 51 - (n + 1))) 51)) z W.heap.size S1 ∧ S1.length = grownCap W (n + 1) old 51 ∧ S1.take n = S ∧ S1[n]? = some s ∧ s.v.ownBlock ≠ none ∧
      Stp (Zn z) l l1 w (W.drew.alloc (.cells ((cellsOf S).toArray ++ #[.slice none 0 0, .slice (some ⟨g0, 0, none⟩) 0 0, .bool false] ++ Builtin.zeroCells zarr (grownCap W (n + 1) old 51 - (n + 1))) 51)) := by
    intro old hslots hids
    have hge := grownCap_ge W (n + 1) old 51
    obtain ⟨G, hG⟩ : ∃ G, grownCap W (n + 1) old 51 = G := ⟨_, rfl⟩
    rw [hG] at hge ⊢
    have hsz := hw.size
    let id := topId S
    let s0 : Slot := ⟨id, .slice none 0 0, [], .slice (some ⟨g0, 0, none⟩) 0 0, [], false⟩
    let l1 : Nat → Nat := fun b => if b < w.heap.size then l b else if b = g0 then vLab z id else z
    have hg0W : g0 < W.heap.size := (Array.getElem?_eq_some_iff.1 hg).1
    obtain ⟨W1, hW1⟩ : ∃ W1, W.drew.alloc (.cells ((cellsOf S).toArray ++ #[.slice none 0 0, .slice (some ⟨g0, 0, none⟩) 0 0, .bool false] ++ Builtin.zeroCells zarr (G - (n + 1))) 51) = W1 := ⟨_, rfl⟩
    have hcells : (cellsOf S).toArray ++ #[.slice none 0 0, .slice (some ⟨g0, 0, none⟩) 0 0, .bool false] ++ Builtin.zeroCells zarr (G - (n + 1)) = (cellsOf (S ++ s0 :: zSlots (id + 1) (G - (n + 1)))).toArray := by
      apply Array.ext'
      rw [cellsOf_append, cellsOf_cons, ← zero_cells]
      simp [s0]
    have hnew : W1.heap[W.heap.size]? = some (.cells (cellsOf (S ++ s0 :: zSlots (id + 1) (G - (n + 1)))).toArray 51 (0, 0)) := by
      rw [← hW1, hcells]; exact heap_alloc_new W.drew _
    have hold : ∀ b, b < W.heap.size → W1.heap[b]? = W.heap[b]? := fun b hb => by rw [← hW1]; exact heap_alloc_old W.drew _ hb
    have hsz1 : W1.heap.size = W.heap.size + 1 := by rw [← hW1]; simp
    have st : Stp (fun _ => False) l l1 w W1 := ⟨by rw [← hW1]; exact hw.os, by rw [← hW1]; exact hw.tape, by rw [← hW1]; exact hw.output, by omega, fun b hb => if_pos hb, fun b hb _ => (hold b (by omega)).trans (hw.block b hb)⟩
    rw [hW1]
    refine ⟨l1, S ++ s0 :: zSlots (id + 1) (G - (n + 1)), s0, ⟨hz, ⟨hnew, ?_⟩, fun s hs => ?_, nodup_more hids _ s0 rfl⟩, ?_, ?_, ?_, ?_, st.mono (fun _ k => k.elim)⟩
    · show (if W.heap.size < w.heap.size then _ else if W.heap.size = g0 then _ else z) = z
      rw [if_neg (by omega), if_neg (by omega)]
    · rcases List.mem_append.1 hs with h | h
      · exact ⟨(hslots s h).1.keep st (fun k => k), (hslots s h).2.keep st (fun k => k)⟩
      · rcases List.mem_cons.1 h with rfl | h
        · refine ⟨Bf.nil _ _ _, ⟨⟨rfl, .inr ⟨g0, 0, #[], rfl, Nat.zero_le _, (hold g0 hg0W).trans hg, Nat.le_refl _, Nat.zero_le _, rfl, rfl⟩⟩, fun b e => ?_⟩⟩
          obtain rfl : g0 = b := Option.some.inj e
          show (if g0 < w.heap.size then _ else if g0 = g0 then _ else z) = _
          rw [if_neg (by omega), if_pos rfl]
        · obtain ⟨j, _, rfl⟩ := zSlots_mem _ _ s h
          exact ⟨Bf.nil _ _ _, Bf.nil _ _ _⟩
    · rw [List.length_append, List.length_cons, zSlots_length]; omega
    · rw [hfull]; exact List.take_left
    · rw [hfull, List.getElem?_append_right (Nat.le_refl _), Nat.sub_self]; rfl
    · intro e; cases e
  rcases hV with ⟨rfl, rfl, rfl⟩ | ⟨a, rfl, hle, hmx, hkv⟩
  · have hr := run_append_nil (P := Tryd.prog) W 49 ty 51 i0 _ Tryd.underlying49 hi hz0 ad 1 c _ (by rw [hz1]; rfl) hnews (by omega) (by omega) (by rw [hz2]; omega)
    obtain ⟨l1, S1, s, h1, h2, h3, h4, h5, h6⟩ := fin 0 (by simp) (by simp)
    refine ⟨l1, _, _, S1, s, ?_, h1, by have := grownCap_ge W 1 0 51; rw [h2]; exact this, by rw [h2]; exact grownCap_le_maxLen W 1 0 _ (by decide), h3, h4, h5, h6⟩
    rw [h2]
    simpa [cellsOf, Value.cells] using hr
  · have hol := cellsOf_length S
    have hr := run_append_grow (P := Tryd.prog) W 49 ty 51 i0 _ Tryd.underlying49 hi hz0 ⟨a, 0, none⟩ n n (cellsOf S) (by rw [hol, hz1, hfull]) (fun j v hv => by
        rw [Addr.add_lit, Nat.zero_add]
        have h1 := hkv.arr
        have h2 := World.cell?_of_block (w := w) (w' := W) (a := ⟨a, j, none⟩) (hw.block a h1.lt)
        rw [h2, h1.cell, List.getElem?_toArray]; exact hv) ad 1 c _ (by rw [hz1]; rfl) hnews (by omega) (by omega) (growslice_fits (by omega) (by rw [hz2]; omega))
    obtain ⟨l1, S1, s, h1, h2, h3, h4, h5, h6⟩ := fin n hkv.slot hkv.ids
    have hgc := grownCap_ge W (n + 1) n 51
    refine ⟨l1, _, _, S1, s, ?_, h1, by omega, by rw [h2]; exact grownCap_le_maxLen W (n + 1) n _ (by unfold maxLen; omega), h3, h4, h5, h6⟩
    rw [h2, ← hfull]
    simpa [Value.cells] using hr
theorem Bf.nil_of {l : Nat → Nat} {w : World} {z : Nat} {v : Value} {xs : List Int} (h : Bf l w z v xs) (hv : v.ownBlock = none) : v = .slice none 0 0 ∧ xs = [] := by
  rcases h.1.2 with ⟨rfl, hn⟩ | ⟨g, cap, cur, rfl, _⟩
  · exact ⟨rfl, List.eq_nil_of_length_eq_zero hn⟩
  · cases hv
theorem Bf.some_of {l : Nat → Nat} {w : World} {z : Nat} {v : Value} {xs : List Int} (h : Bf l w z v xs) (hv : v.ownBlock ≠ none) : ∃ g c, v = .slice (some ⟨g, 0, none⟩) xs.length c := by
  rcases h.1.2 with ⟨rfl, hn⟩ | ⟨g, cap, cur, rfl, _⟩
  · exact absurd rfl hv
  · exact ⟨g, cap, rfl⟩
theorem get_some {S : List Slot} {n : Nat} (h : n < S.length) : ∃ s, S[n]? = some s := ⟨S[n], by rw [List.getElem?_eq_getElem h]⟩
set_option maxHeartbeats 1000000 in
set_option maxRecDepth 100000 in
theorem allocArg_room (l : Nat → Nat) (w : World) (z a n : Nat) (S : List Slot) (h : Kv l w z a S) (hlt : n < S.length) (hmx : S.length ≤ maxLen) (hn : n ≤ 1099511627776) :
    Calls Tryd.prog 150 #[.slice (some ⟨a, 0, none⟩) n S.length] w fun e w' => ∃ l1 S1 s, e = .returned (.tuple #[.slice (some ⟨a, 0, none⟩) (n + 1) S1.length, .pointer (some ⟨a, n * 3, none⟩)]) ∧
      Kv l1 w' z a S1 ∧ S1.length = S.length ∧ S1.take n = S.take n ∧ S1[n]? = some s ∧ s.v.ownBlock ≠ none ∧ Stp (Zn z) l l1 w w' := by
  obtain ⟨s, hs⟩ := get_some hlt
  obtain ⟨c0, c1, c2⟩ := h.cell hs
  have hb := (h.row hs).2
  have q1 : (n : Int) < (S.length : Int) := by omega
  have q2 : (n : Int) + 1 ≤ (S.length : Int) := by omega
  have q3 : n + 1 ≤ S.length := by omega
  have f1 := h.free (n * 3 + 1)
  by_cases hv : s.v.ownBlock = none
  · obtain ⟨hv0, hx0⟩ := hb.nil_of hv
    rw [hv0] at c1
    have heq := fun W : World => Lib.run_eql_slice_nil (P := Tryd.prog) W 47 5 none 0 0 0 0 Tryd.underlying47
    obtain ⟨W, hW⟩ : ∃ W, w.alloc (.cells #[] 5) = W := ⟨_, rfl⟩
    have hlz : vLab z s.id % 64 = z := by have := h.hz; unfold vLab; omega
    have st : Stp (· = vLab z s.id) l (ext l w.heap.size (vLab z s.id)) w W := by rw [← hW]; exact Stp.of_below ((Below.refl _ _).alloc (Nat.le_refl _) _) _ _ _
    have hbn : Bf (ext l w.heap.size (vLab z s.id)) W (vLab z s.id) (.slice (some ⟨w.heap.size, 0, none⟩) 0 0) [] := by
      refine ⟨⟨rfl, .inr ⟨w.heap.size, 0, #[], rfl, Nat.zero_le _, by rw [← hW]; exact heap_alloc_new w _, Nat.le_refl _, Nat.zero_le _, rfl, rfl⟩⟩, fun b e => ?_⟩
      obtain rfl : w.heap.size = b := Option.some.inj e
      exact ext_new l (Nat.le_refl _)
    have hfin := h.storeV hs hbn st
    have fz : W.frozen? ⟨a, n * 3 + 1, none⟩ = false := by
      have h1 := h.arr.keep st (fun e => by have := h.hz; unfold vLab at e; omega)
      exact h1.free _
    have cz : W.cell? ⟨a, n * 3 + 1, none⟩ = some (.slice none 0 0) := by
      have h1 := h.arr.keep st (fun e => by have := h.hz; unfold vLab at e; omega)
      rw [h1.cell, List.getElem?_toArray, cellsOf_at S n s hs 1 (by omega)]
      simp [Slot.cells, hv0]
    have hset : (S.set n { s with v := .slice (some ⟨w.heap.size, 0, none⟩) 0 0, vx := [] })[n]? = some { s with v := .slice (some ⟨w.heap.size, 0, none⟩) 0 0, vx := [] } := by rw [List.getElem?_set, if_pos rfl, if_pos hlt]
    have htk : (S.set n { s with v := .slice (some ⟨w.heap.size, 0, none⟩) 0 0, vx := [] }).take n = S.take n := by rw [List.take_set_of_le (Nat.le_refl _)]
    have hlen : (S.set n { s with v := .slice (some ⟨w.heap.size, 0, none⟩) 0 0, vx := [] }).length = S.length := List.length_set
    have HFIN := Lib.hid hfin
    have HSET := Lib.hid hset
    have HTK := Lib.hid htk
    have HLEN := Lib.hid hlen
    obtain ⟨N, hN⟩ : ∃ N, S.length = N := ⟨_, rfl⟩
    rw [hN] at q1 q2 q3 hmx hlt ⊢
    have HN := Lib.hid hN
    have HW := Lib.hid hW
    rw [← hW] at fz cz
    clear hN hs hb hv hv0 hx0 h st hbn hfin hset htk hlen hlz hW
    go_enter Tryd.func150, Tryd.ntmps150
    go_wp2
    go_ret2
    rw [HW.out]
    exact ⟨_, _, _, (by rw [HLEN.out, HN.out]; rfl), HFIN.out.1, (by rw [HLEN.out, HN.out]), HTK.out, HSET.out, (fun e => by cases e), HFIN.out.2⟩
  · obtain ⟨g, c, hv0⟩ := hb.some_of hv
    rw [hv0] at c1
    have H := Lib.hid h
    have HS := Lib.hid hs
    have HV := Lib.hid hv
    obtain ⟨M, hM⟩ : ∃ M, s.vx.length = M := ⟨_, rfl⟩
    have heq := fun W : World => Lib.run_eql_slice_nil (P := Tryd.prog) W 47 5 (some ⟨g, 0, none⟩) M c 0 0 Tryd.underlying47
    obtain ⟨N, hN⟩ : ∃ N, S.length = N := ⟨_, rfl⟩
    rw [hN] at q1 q2 q3 hmx hlt ⊢
    rw [hM] at c1
    have HN := Lib.hid hN
    clear hN hM hs hb hv hv0 h
    go_enter Tryd.func150, Tryd.ntmps150
    go_wp2
    go_ret2
    exact ⟨l, S, s, (by rw [HN.out]; rfl), H.out, HN.out, rfl, HS.out, HV.out, Stp.refl _ _ _⟩
set_option maxHeartbeats 1000000 in
set_option maxRecDepth 100000 in
theorem allocArg_full (l : Nat → Nat) (w : World) (z n : Nat) (V : Value) (S : List Slot) (h : KvS l w z V n S) (hfull : n = S.length) (hn : n ≤ 1099511627776) :
    Calls Tryd.prog 150 #[V] w fun e w' => ∃ l1 a S1 s, e = .returned (.tuple #[.slice (some ⟨a, 0, none⟩) (n + 1) S1.length, .pointer (some ⟨a, n * 3, none⟩)]) ∧
      Kv l1 w' z a S1 ∧ n < S1.length ∧ S1.length ≤ maxLen ∧ S1.take n = S ∧ S1[n]? = some s ∧ s.v.ownBlock ≠ none ∧ Stp (Zn z) l l1 w w' := by
  have hinfo : (Tryd.prog.info? 51).map (fun i => (i.zero, i.size, i.bytes)) = some (some (.agg zarr), 3, 56) := by kernel_rfl
  obtain ⟨W1, hW1⟩ : ∃ W, w.alloc (.cells #[] 5) = W := ⟨_, rfl⟩
  obtain ⟨W2, hW2⟩ : ∃ W, W1.alloc (.cells #[.slice none 0 0, .slice (some ⟨w.heap.size, 0, none⟩) 0 0, .bool false] 51) = W := ⟨_, rfl⟩
  have hb1 : Below w.heap.size w W1 := by rw [← hW1]; exact (Below.refl _ _).alloc (Nat.le_refl _) _
  have hs1 : W1.heap.size = w.heap.size + 1 := by rw [← hW1]; simp
  have hb2 : Below w.heap.size w W2 := by rw [← hW2]; exact hb1.alloc (by omega) _
  have hg : W2.heap[w.heap.size]? = some (.cells #[] 5 (0, 0)) := by rw [← hW2]; exact blk_alloc (by rw [← hW1]; exact heap_alloc_new w _) _
  have hn2 : W2.heap[w.heap.size + 1]? = some (.cells #[.slice none 0 0, .slice (some ⟨w.heap.size, 0, none⟩) 0 0, .bool false] 51 (0, 0)) := by rw [← hW2, ← hs1]; exact heap_alloc_new W1 _
  obtain ⟨l1, w1, a, S1, s, hr, hkv, hlt, hmx, htk, hs, hnn, hst⟩ := run_grow_kv (W := W2) 49 ⟨w.heap.size + 1, 0, none⟩ 1 hinfo h hfull hn hb2 (Nat.le_refl _) hg (by rw [Addr.add_lit, cell_of_row W2 _ _ _ _ (0, 0) hn2]; rfl) (by rw [Addr.add_lit, cell_of_row W2 _ _ _ _ (0, 0) hn2]; rfl) (by rw [Addr.add_lit, cell_of_row W2 _ _ _ _ (0, 0) hn2]; rfl)
  have HR := Lib.hid hr
  have HK := Lib.hid hkv
  have HS := Lib.hid hs
  have HT := Lib.hid hst
  have HTK := Lib.hid htk
  have hcap : ∃ A, V = .slice A n n := by
    obtain ⟨_, _, ⟨rfl, _, rfl⟩ | ⟨a0, rfl, _⟩⟩ := h
    · exact ⟨none, rfl⟩
    · exact ⟨some ⟨a0, 0, none⟩, by rw [← hfull]⟩
  obtain ⟨A, rfl⟩ := hcap
  obtain ⟨N, hN⟩ : ∃ N, S1.length = N := ⟨_, rfl⟩
  rw [hN] at hlt hmx
  have HN := Lib.hid hN
  have q1 : ¬ ((n : Int) < (n : Int)) := by omega
  have HW1 := Lib.hid hW1
  have HW2 := Lib.hid hW2
  have HHS := Lib.hid hs1
  have q2 : n < N := hlt
  clear hN hr hkv hs hst htk hg hn2 hb1 hb2 hs1 h hfull hinfo hW1 hW2
  go_enter Tryd.func150, Tryd.ntmps150
  go_wp2_with (at_builtin; refine app_run rfl (.tmp 30) (.tmp 33) 49 49 rfl _ _ _ rfl rfl (by rw [HW1.out, HW2.out]; exact HR.out) ?_)
  repeat (go_quiet (fail); try go_wp2)
  go_ret2
  have hd := fun m => Stp.of_below_same (pw_below_drewN (Below.refl w1.heap.size w1) m) (Zn z) l1
  exact ⟨l1, a, S1, s, rfl, HK.out.keep (F := fun _ => False) (Stp.of_below_same (pw_below_drewN (Below.refl w1.heap.size w1) _) _ _) (fun _ k => k.elim), by rw [HN.out]; exact q2, by rw [HN.out]; exact hmx, HTK.out, HS.out, hnn, HT.out.trans (hd _)⟩
theorem allocArg_calls (l : Nat → Nat) (w : World) (z n : Nat) (V : Value) (S : List Slot) (h : KvS l w z V n S) (hn : n ≤ 1099511627776) :
    Calls Tryd.prog 150 #[V] w fun e w' => ∃ l1 a S1 s, e = .returned (.tuple #[.slice (some ⟨a, 0, none⟩) (n + 1) S1.length, .pointer (some ⟨a, n * 3, none⟩)]) ∧
      Kv l1 w' z a S1 ∧ n < S1.length ∧ S1.length ≤ maxLen ∧ S1.take n = S.take n ∧ S1[n]? = some s ∧ s.v.ownBlock ≠ none ∧ Stp (Zn z) l l1 w w' := by
  have h0 := h
  obtain ⟨hz, hnn, h1⟩ := h
  by_cases hfull : n = S.length
  · refine (allocArg_full l w z n V S h0 hfull hn).mono ?_
    rintro e w' ⟨l1, a, S1, s, q1, q2, q3, q4, q5, q6⟩
    exact ⟨l1, a, S1, s, q1, q2, q3, q4, by rw [q5, hfull, List.take_length], q6⟩
  · obtain ⟨_, rfl, rfl⟩ | ⟨a, rfl, hle, hmx, hkv⟩ := h1
    · exact absurd rfl hfull
    · refine (allocArg_room l w z a n S hkv (by omega) hmx hn).mono ?_
      rintro e w' ⟨l1, S1, s, q1, q2, q3, q4, q5, q6, q7⟩
      exact ⟨l1, a, S1, s, q1, q2, by omega, by omega, q4, q5, q6, q7⟩
def Src (F : Nat → Prop) (l : Nat → Nat) (w : World) (A : Option Addr) (m : Nat) (xs : List Int) : Prop := ∀ l1 w1, Stp F l l1 w w1 → ReadsInt w1 .u8 A m xs
theorem Src.now {F : Nat → Prop} {l : Nat → Nat} {w : World} {A : Option Addr} {m : Nat} {xs : List Int} (h : Src F l w A m xs) : ReadsInt w .u8 A m xs := h l w (Stp.refl _ _ _)
theorem Src.step {F : Nat → Prop} {l l1 : Nat → Nat} {w w1 : World} {A : Option Addr} {m : Nat} {xs : List Int} (h : Src F l w A m xs) (s : Stp F l l1 w w1) : Src F l1 w1 A m xs := fun l2 w2 k => h l2 w2 (s.trans k)
theorem Src.of_bf {F : Nat → Prop} {l : Nat → Nat} {w : World} {z : Nat} {A : Option Addr} {m c : Nat} {xs : List Int} (h : Bf l w z (.slice A m c) xs) (hz : ¬ F z) : m = xs.length ∧ Src F l w A xs.length xs :=
  ⟨h.cut0.1, fun l1 w1 s => (h.keep s hz).reads⟩
theorem cutz (A : Option Addr) (n c : Nat) (W : World) : (Instr.slice 47 (.slice A n c) none (some (.int .i64 0)) none).run Tryd.prog W = .ok (.slice A 0 c) W := by
  have hel : Tryd.prog.elem 47 = 5 := by simp [Program.elem, Tryd.underlying47]
  have hu : Tryd.prog.underlying 47 = some (.slice (Tryd.prog.elem 47)) := by rw [hel]; exact Tryd.underlying47
  have ha : (A.map fun x => x.add 0) = A := by cases A <;> simp [Addr.add]
  have := run_slice_h W 47 A n c hu .i64 0 (by omega) (by omega)
  simpa [hel, ha, sliced] using this
theorem info8 : (Tryd.prog.info? 5).map (fun i => (i.zero, i.size, i.bytes)) = some (some (.int .u8 0), 1, 1) := by kernel_rfl
theorem Kv.at (l : Nat → Nat) {w : World} {z a : Nat} {S : List Slot} (h : Kv l w z a S) {i : Nat} {s : Slot} (hs : S[i]? = some s) :
    (∃ A n c, s.k = .slice A n c ∧ w.cell? ⟨a, i * 3, none⟩ = some (.slice A n c) ∧ Bf l w (kLab z s.id) (.slice A 0 c) []) ∧ (∃ A n c, s.v = .slice A n c ∧ w.cell? ⟨a, i * 3 + 1, none⟩ = some (.slice A n c) ∧ Bf l w (vLab z s.id) (.slice A 0 c) []) ∧ w.cell? ⟨a, i * 3 + 2, none⟩ = some (.bool s.no) ∧
    w.frozen? ⟨a, i * 3, none⟩ = false ∧ w.frozen? ⟨a, i * 3 + 1, none⟩ = false ∧ w.frozen? ⟨a, i * 3 + 2, none⟩ = false := by
  obtain ⟨c0, c1, c2⟩ := h.cell hs
  obtain ⟨hk, hv⟩ := h.row hs
  obtain ⟨A, c, e, _, hb⟩ := hk.cut 0 (Nat.zero_le _)
  obtain ⟨A2, c', e', _, hb'⟩ := hv.cut 0 (Nat.zero_le _)
  exact ⟨⟨A, _, c, e, by rw [c0, e], by simpa using hb⟩, ⟨A2, _, c', e', by rw [c1, e'], by simpa using hb'⟩, c2, h.free _, h.free _, h.free _⟩
theorem Kv.cells_keep {l l1 : Nat → Nat} {w w1 : World} {z a : Nat} {S : List Slot} (h : Kv l w z a S) {lab : Nat} (st : Stp (· = lab) l l1 w w1) (hl : lab ≠ z) (o : Nat) : w1.cell? ⟨a, o, none⟩ = w.cell? ⟨a, o, none⟩ ∧ w1.frozen? ⟨a, o, none⟩ = false := by
  have h1 := h.arr.keep st (fun e => hl e.symm)
  exact ⟨by rw [h1.cell, h.arr.cell], h1.free o⟩
theorem kLab_ne {z id : Nat} (hz : z < 64) : kLab z id ≠ z := by unfold kLab; omega
theorem vLab_ne {z id : Nat} (hz : z < 64) : vLab z id ≠ z := by unfold vLab; omega
theorem take_set_snoc {S0 S1 : List Slot} {n : Nat} (ht : S1.take n = S0.take n) (hlt : n < S1.length) (s : Slot) : kvs (S1.set n s) (n + 1) = kvs S0 n ++ [⟨s.kx, s.vx, s.no⟩] := by
  unfold kvs
  have e : (S1.set n s).take (n + 1) = S0.take n ++ [s] := by
    rw [List.take_add_one, List.take_set_of_le (Nat.le_refl _), ht, List.getElem?_set, if_pos rfl, if_pos hlt]
    rfl
  rw [e, List.map_append]
  rfl
theorem nn_set {S0 S1 : List Slot} {n : Nat} (h0 : ∀ s ∈ S0.take n, s.v.ownBlock ≠ none) (ht : S1.take n = S0.take n) (hlt : n < S1.length) (s : Slot) (hs : s.v.ownBlock ≠ none) : ∀ t ∈ (S1.set n s).take (n + 1), t.v.ownBlock ≠ none := by
  have e : (S1.set n s).take (n + 1) = S0.take n ++ [s] := by
    rw [List.take_add_one, List.take_set_of_le (Nat.le_refl _), ht, List.getElem?_set, if_pos rfl, if_pos hlt]
    rfl
  rw [e]
  intro t h
  rcases List.mem_append.1 h with h | h
  · exact h0 t h
  · rw [List.mem_singleton.1 h]; exact hs
theorem set_set_at {S : List Slot} {n : Nat} (s t : Slot) : (S.set n s).set n t = S.set n t := List.set_set ..
theorem get_set {S : List Slot} {n : Nat} {s0 s : Slot} (h : S[n]? = some s0) : (S.set n s)[n]? = some s := by
  have : n < S.length := (List.getElem?_eq_some_iff.1 h).1
  rw [List.getElem?_set, if_pos rfl, if_pos this]
def Any2 (a b : Nat) : Nat → Prop := fun x => x = a ∨ x = b
def Any3 (a b c : Nat) : Nat → Prop := fun x => x = a ∨ x = b ∨ x = c
theorem Cl.field {l l1 : Nat → Nat} {w w1 : World} {zp p z : Nat} {T : TypeId} {cs : Array Value} (h : Cl l w zp p T cs) (st : Stp (· = z) l l1 w w1) (hz : z ≠ zp) (o : Nat) (v : Value) :
    (w1.cell? ⟨p, o, none⟩ = cs[o]? ∧ w1.frozen? ⟨p, o, none⟩ = false) ∧ Cl l1 (w1.setCell ⟨p, o, none⟩ v) zp p T (cs.setIfInBounds o v) ∧ Stp (Any2 zp z) l l1 w (w1.setCell ⟨p, o, none⟩ v) ∧ Stp (· = zp) l1 l1 w1 (w1.setCell ⟨p, o, none⟩ v) := by
  have h1 := h.keep st (fun e => hz e.symm)
  obtain ⟨h2, s2⟩ := h1.set o v
  exact ⟨⟨h1.cell o, h1.free o⟩, h2, (st.mono (fun _ e => .inr e)).trans (s2.mono (fun _ e => .inl e)), s2⟩
set_option maxHeartbeats 1000000 in
set_option maxRecDepth 100000 in
theorem initKV_calls (l : Nat → Nat) (w : World) (zp zk zv p o : Nat) (T : TypeId) (cs : Array Value) (kv0 vv0 : Value) (kx0 vx0 : List Int) (key value : ByteArray) (dn : Bool)
    (hd : Cl l w zp p T cs) (ck : cs[o]? = some kv0) (cv : cs[o + 1]? = some vv0) (hk : Bf l w zk kv0 kx0) (hv : Bf l w zv vv0 vx0) (z1 : zk ≠ zp) (z2 : zv ≠ zp) (z3 : zk ≠ zv) (hks : key.size ≤ 140737488355328) (hvs : value.size ≤ 140737488355328) :
    Calls Tryd.prog 59 #[.pointer (some ⟨p, o, none⟩), .string key, .string value, .bool dn] w fun e w' => ∃ l1 kv1 vv1, e = .returned (.tuple #[]) ∧ Cl l1 w' zp p T ((cs.setIfInBounds o kv1).setIfInBounds (o + 1) vv1) ∧ Bf l1 w' zk kv1 (nkd dn (ns key)) ∧ Bf l1 w' zv vv1 (ns value) ∧ Stp (Any3 zp zk zv) l l1 w w' := by
  obtain ⟨A, c, rfl, _⟩ := hk.slice
  obtain ⟨B, d, rfl, _⟩ := hv.slice
  have hk0 := hk.cut0.2
  have x0 : w.cell? ⟨p, o, none⟩ = some (.slice A kx0.length c) := by rw [hd.cell, ck]
  obtain ⟨m0, hm0⟩ : ∃ m, kx0.length = m := ⟨_, rfl⟩
  obtain ⟨m1, hm1⟩ : ∃ m, vx0.length = m := ⟨_, rfl⟩
  rw [hm0] at x0 ck
  rw [hm1] at cv
  have HD := Lib.hid hd
  have HK := Lib.hid hk0
  have HV := Lib.hid hv
  have CK := Lib.hid ck
  have CV := Lib.hid cv
  have HM1 := Lib.hid hm1
  have hcz := cutz
  clear hd hk hk0 hv ck cv hm0 hm1
  go_enter Tryd.func59, Tryd.ntmps59
  go_wp2_with (first
    | (at_builtin
       refine app_str zk rfl (.tmp 13) (.tmp 14) 47 9 rfl Tryd.underlying47 Tryd.underlying9 info8 _ [] key rfl rfl HK.out (by simp; omega) ?_
       intro v1 w1 l1 hB1 st1 hn1
       rw [List.nil_append] at hB1
       obtain ⟨A1, c1, rfl, _⟩ := hB1.slice
       obtain ⟨N1, hN1⟩ : ∃ N, (ns key).length = N := ⟨_, rfl⟩
       have hf := HD.out.field st1 z1 o (.slice A1 N1 c1)
       obtain ⟨⟨y0, g0⟩, hC1, hS1, hS0⟩ := hf
       rw [CK.out] at y0
       have hB1' := hB1.keep hS0 z1
       have hV1 := (HV.out.keep st1 (fun e => z3 e.symm)).keep hS0 z2
       have y1 : (w1.setCell ⟨p, o, none⟩ (.slice A1 N1 c1)).cell? ⟨p, o, none⟩ = some (.slice A1 N1 c1) := by
         rw [hC1.cell, Array.getElem?_setIfInBounds, if_pos rfl, if_pos (Array.getElem?_eq_some_iff.1 CK.out).1]
       have HNH := nhk_bf l1 (w1.setCell ⟨p, o, none⟩ (.slice A1 N1 c1)) zk A1 c1 (ns key) dn hB1' (fun x hx => ns_range key x hx) (by rw [ns_length]; omega)
       rw [hN1] at HNH hB1 hB1'
       rw [hN1]
       have HN := Lib.hid HNH
       have C1 := Lib.hid hC1
       have S1 := Lib.hid hS1
       have V1 := Lib.hid hV1
       have HN1 := Lib.hid hN1
       clear HNH hC1 hS1 hV1 hB1 hB1' st1 hn1 hS0 hN1)
    | (go_at_call 72
       refine HN.out.mono ?_
       rintro e w3 ⟨rfl, hB3, st3⟩
       have hC3 := C1.out.keep st3 (fun e => z1 e.symm)
       have hV3 := V1.out.keep st3 (fun e => z3 e.symm)
       have u1 : w3.cell? ⟨p, o + 1, none⟩ = some (.slice B m1 d) := by
         rw [hC3.cell, Array.getElem?_setIfInBounds, if_neg (by omega)]; exact CV.out
       have B3 := Lib.hid hB3
       have C3 := Lib.hid hC3
       have hV3' := hV3
       rw [← HM1.out] at u1
       have V3 := Lib.hid hV3'.cut0.2
       obtain ⟨m2, hm2⟩ : ∃ m, vx0.length = m := ⟨_, rfl⟩
       rw [hm2] at u1
       have S3 := Lib.hid st3
       clear hB3 hC3 hV3 hV3' st3 hm2)
    | (at_builtin
       refine app_str zv rfl (.tmp 29) (.tmp 30) 47 9 rfl Tryd.underlying47 Tryd.underlying9 info8 _ [] value rfl rfl V3.out (by simp; omega) ?_
       intro v2 w4 l4 hB4 st4 hn4
       rw [List.nil_append] at hB4
       obtain ⟨A4, c4, rfl, _⟩ := hB4.slice
       have hf := C3.out.field st4 z2 (o + 1) (.slice A4 (ns value).length c4)
       obtain ⟨⟨t0, h0⟩, hC4, hS4, hS5⟩ := hf
       rw [Array.getElem?_setIfInBounds, if_neg (by omega), CV.out] at t0
       have B4 := Lib.hid (hB4.keep hS5 z2)
       have K4 := Lib.hid ((B3.out.keep st4 (fun e => z3 e)).keep hS5 z1)
       have C4 := Lib.hid hC4
       have S4 := Lib.hid hS4
       clear hB4 st4 hn4 hC4 hS4 hS5))
  go_end0
  refine ⟨_, _, _, rfl, C4.out, ?_, B4.out, ?_⟩
  · have := K4.out
    rw [← HN1.out] at this ⊢
    exact this
  · exact ((S1.out.mono (fun x e => e.elim .inl (fun e => .inr (.inl e)))).trans (S3.out.mono (fun x e => .inr (.inl e)))).trans (S4.out.mono (fun x e => e.elim .inl (fun e => .inr (.inr e))))
def TrC (l : Nat → Nat) (w : World) (q p : Nat) (V : Value) (n : Nat) (S : List Slot) (kv : Value) (kx : List Int) (vv : Value) (vx : List Int) (dn : Bool) : Prop :=
  0 < q ∧ q + 3 < 64 ∧ Cl l w q p 113 #[V, kv, vv, .bool false, .bool dn] ∧ KvS l w (q + 3) V n S ∧ Bf l w (q + 1) kv kx ∧ Bf l w (q + 2) vv vx
def Tz (q : Nat) : Nat → Prop := fun lab => lab = q ∨ lab = q + 1 ∨ lab = q + 2 ∨ lab % 64 = q + 3
theorem KvS.shape {l : Nat → Nat} {w : World} {z n : Nat} {V : Value} {S : List Slot} (h : KvS l w z V n S) : ∃ A c, V = .slice A n c := by
  obtain ⟨_, _, ⟨rfl, _, rfl⟩ | ⟨a0, rfl, _⟩⟩ := h
  · exact ⟨none, 0, rfl⟩
  · exact ⟨_, _, rfl⟩
theorem TrC.keep {l l1 : Nat → Nat} {w w1 : World} {q p n : Nat} {V kv vv : Value} {S : List Slot} {kx vx : List Int} {dn : Bool} {F : Nat → Prop} (h : TrC l w q p V n S kv kx vv vx dn) (s : Stp F l l1 w w1) (hF : ∀ lab, F lab → ¬ Tz q lab) : TrC l1 w1 q p V n S kv kx vv vx dn := by
  obtain ⟨h1, h2, h3, h4, h5, h6⟩ := h
  exact ⟨h1, h2, h3.keep s (fun k => hF _ k (.inl rfl)), h4.keep s (fun lab k e => hF lab k (.inr (.inr (.inr e)))), h5.keep s (fun k => hF _ k (.inr (.inl rfl))), h6.keep s (fun k => hF _ k (.inr (.inr (.inl rfl))))⟩
def TrO (l : Nat → Nat) (w : World) (q : Nat) (v : Value) (t : Option (List KVx × Bool)) : Prop :=
  (v = .pointer none ∧ t = none) ∨ ∃ p V n S kv kx vv vx dn, v = .pointer (some ⟨p, 0, none⟩) ∧ t = some (kvs S n, dn) ∧ TrC l w q p V n S kv kx vv vx dn
theorem TrO.nil (l : Nat → Nat) (w : World) (q : Nat) : TrO l w q (.pointer none) none := .inl ⟨rfl, rfl⟩
theorem TrO.keep {l l1 : Nat → Nat} {w w1 : World} {q : Nat} {v : Value} {t : Option (List KVx × Bool)} {F : Nat → Prop} (h : TrO l w q v t) (s : Stp F l l1 w w1) (hF : ∀ lab, F lab → ¬ Tz q lab) : TrO l1 w1 q v t := by
  rcases h with h | ⟨p, V, n, S, kv, kx, vv, vx, dn, h1, h2, h3⟩
  · exact .inl h
  · exact .inr ⟨p, V, n, S, kv, kx, vv, vx, dn, h1, h2, h3.keep s hF⟩
def Rw (l : Nat → Nat) (w : World) (z : Nat) (T : TypeId) (v : Value) (cs : List Value) : Prop := w.ownsRow 0 T 1 v cs.length cs ∧ ∀ b, v.ownBlock = some b → l b = z
theorem Rw.nil (l : Nat → Nat) (w : World) (z : Nat) (T : TypeId) : Rw l w z T (.slice none 0 0) [] := ⟨World.ownsRow_nil w 0 _ 1, fun b hb => by simp [Value.ownBlock] at hb⟩
theorem Rw.keep {l l1 : Nat → Nat} {w w1 : World} {z : Nat} {T : TypeId} {v : Value} {cs : List Value} {F : Nat → Prop} (h : Rw l w z T v cs) (s : Stp F l l1 w w1) (hz : ¬ F z) : Rw l1 w1 z T v cs := by
  obtain ⟨ho, hb⟩ := h
  refine ⟨⟨ho.1, ?_⟩, fun b e => (s.lab b (ho.lt b e).2).trans (hb b e)⟩
  rcases ho.2 with hn | ⟨g, cap, cur, rfl, h0, hg, rest⟩
  · exact .inl hn
  · have hlt := (Array.getElem?_eq_some_iff.1 hg).1
    exact .inr ⟨g, cap, cur, rfl, h0, (s.block g hlt (by rw [hb g rfl]; exact hz)).trans hg, rest⟩
structure RqV where
  dn : Bool
  cc : Bool
  nd : Bool
  cd : Bool
  cl : Int
  lb : List Int
  me : List Int
  ur : List Int
  ho : List Int
  ct : List Int
  ua : List Int
  pr : ByteArray
  h : List KVx
  tr : Option (List KVx × Bool)
  ck : List KVx
structure RqG where
  lb : Value
  me : Value
  ur : Value
  ho : Value
  ct : Value
  ua : Value
  h : Value
  ck : Value
  mu : Value
  mux : List Value
  bk : Value
  bkx : List Int
  bv : Value
  bvx : List Int
  bn : Bool
  tr : Value
  nh : Nat
  Sh : List Slot
  nck : Nat
  Sck : List Slot
def RqG.cells (G : RqG) (R : RqV) : Array Value := #[.bool R.dn, .bool R.cc, .bool R.nd, .bool R.cd, .int .i64 R.cl, G.lb, G.me, G.ur, G.ho, G.ct, G.ua, G.mu, .string R.pr, G.h, G.bk, G.bv, .bool G.bn, G.tr, G.ck, .slice none 0 0]
def RqZ (q : Nat) : Nat → Prop := fun lab => q ≤ lab % 64 ∧ lab % 64 < q + 16
structure RqC (l : Nat → Nat) (w : World) (q p : Nat) (G : RqG) (R : RqV) : Prop where
  hq : 0 < q
  hq' : q + 15 < 64
  blk : Cl l w q p 54 (G.cells R)
  lb : Bf l w (q + 1) G.lb R.lb
  me : Bf l w (q + 2) G.me R.me
  ur : Bf l w (q + 3) G.ur R.ur
  ho : Bf l w (q + 4) G.ho R.ho
  ct : Bf l w (q + 5) G.ct R.ct
  ua : Bf l w (q + 6) G.ua R.ua
  mu : Rw l w (q + 7) 47 G.mu G.mux
  bk : Bf l w (q + 8) G.bk G.bkx
  bv : Bf l w (q + 9) G.bv G.bvx
  h : KvS l w (q + 10) G.h G.nh G.Sh
  ck : KvS l w (q + 11) G.ck G.nck G.Sck
  tr : TrO l w (q + 12) G.tr R.tr
  hx : R.h = kvs G.Sh G.nh
  ckx : R.ck = kvs G.Sck G.nck
theorem RqC.keep {l l1 : Nat → Nat} {w w1 : World} {q p : Nat} {G : RqG} {R : RqV} {F : Nat → Prop} (h : RqC l w q p G R) (s : Stp F l l1 w w1) (hF : ∀ lab, F lab → ¬ RqZ q lab) : RqC l1 w1 q p G R := by
  have h1 := h.hq
  have h2 := h.hq'
  exact ⟨h1, h2, h.blk.keep s (fun k => hF _ k (by unfold RqZ; omega)), h.lb.keep s (fun k => hF _ k (by unfold RqZ; omega)), h.me.keep s (fun k => hF _ k (by unfold RqZ; omega)), h.ur.keep s (fun k => hF _ k (by unfold RqZ; omega)), h.ho.keep s (fun k => hF _ k (by unfold RqZ; omega)), h.ct.keep s (fun k => hF _ k (by unfold RqZ; omega)), h.ua.keep s (fun k => hF _ k (by unfold RqZ; omega)), h.mu.keep s (fun k => hF _ k (by unfold RqZ; omega)), h.bk.keep s (fun k => hF _ k (by unfold RqZ; omega)), h.bv.keep s (fun k => hF _ k (by unfold RqZ; omega)), h.h.keep s (fun lab k e => hF lab k (by unfold RqZ; omega)), h.ck.keep s (fun lab k e => hF lab k (by unfold RqZ; omega)), h.tr.keep s (fun lab k e => hF lab k (by unfold Tz at e; unfold RqZ; omega)), h.hx, h.ckx⟩
theorem RqC.c_dn {l : Nat → Nat} {w : World} {q p : Nat} {G : RqG} {R : RqV} (h : RqC l w q p G R) : w.cell? ⟨p, 0, none⟩ = some (.bool R.dn) ∧ w.frozen? ⟨p, 0, none⟩ = false := ⟨by rw [h.blk.cell]; rfl, h.blk.free 0⟩
theorem RqC.c_h {l : Nat → Nat} {w : World} {q p : Nat} {G : RqG} {R : RqV} (h : RqC l w q p G R) : w.cell? ⟨p, 13, none⟩ = some (G.h) ∧ w.frozen? ⟨p, 13, none⟩ = false := ⟨by rw [h.blk.cell]; rfl, h.blk.free 13⟩
theorem RqC.c_bk {l : Nat → Nat} {w : World} {q p : Nat} {G : RqG} {R : RqV} (h : RqC l w q p G R) : w.cell? ⟨p, 14, none⟩ = some (G.bk) ∧ w.frozen? ⟨p, 14, none⟩ = false := ⟨by rw [h.blk.cell]; rfl, h.blk.free 14⟩
theorem RqC.c_bv {l : Nat → Nat} {w : World} {q p : Nat} {G : RqG} {R : RqV} (h : RqC l w q p G R) : w.cell? ⟨p, 15, none⟩ = some (G.bv) ∧ w.frozen? ⟨p, 15, none⟩ = false := ⟨by rw [h.blk.cell]; rfl, h.blk.free 15⟩
theorem RqC.set_dn {l : Nat → Nat} {w : World} {q p : Nat} {G : RqG} {R : RqV} (h : RqC l w q p G R) (x : Bool) : RqC l (w.setCell ⟨p, 0, none⟩ (.bool x)) q p G { R with dn := x } ∧ Stp (RqZ q) l l w (w.setCell ⟨p, 0, none⟩ (.bool x)) := by
  have h1 := h.hq
  have h2 := h.hq'
  obtain ⟨k, s⟩ := h.blk.set 0 (.bool x)
  exact ⟨⟨h1, h2, k, h.lb.keep s (by omega), h.me.keep s (by omega), h.ur.keep s (by omega), h.ho.keep s (by omega), h.ct.keep s (by omega), h.ua.keep s (by omega), h.mu.keep s (by omega), h.bk.keep s (by omega), h.bv.keep s (by omega), h.h.keep s (fun lab k e => by omega), h.ck.keep s (fun lab k e => by omega), h.tr.keep s (fun lab k e => by unfold Tz at e; omega), h.hx, h.ckx⟩, s.mono (fun lab e => by unfold RqZ; omega)⟩
theorem RqC.set_h {l l1 : Nat → Nat} {w w1 : World} {q p : Nat} {G : RqG} {R : RqV} (h : RqC l w q p G R) (st : Stp (Zn (q + 10)) l l1 w w1) {v : Value} {n : Nat} {S : List Slot} (hb : KvS l1 w1 (q + 10) v n S) : (w1.cell? ⟨p, 13, none⟩ = some G.h ∧ w1.frozen? ⟨p, 13, none⟩ = false) ∧ RqC l1 (w1.setCell ⟨p, 13, none⟩ v) q p { G with h := v, nh := n, Sh := S } { R with h := kvs S n } ∧ Stp (RqZ q) l l1 w (w1.setCell ⟨p, 13, none⟩ v) := by
  have h1 := h.hq
  have h2 := h.hq'
  have hk := h.blk.keep st (by unfold Zn; omega)
  obtain ⟨k, s⟩ := hk.set 13 v
  exact ⟨⟨by rw [hk.cell]; rfl, hk.free 13⟩, ⟨h1, h2, k, (h.lb.keep st (fun k => by unfold Zn at k; omega)).keep s (by omega), (h.me.keep st (fun k => by unfold Zn at k; omega)).keep s (by omega), (h.ur.keep st (fun k => by unfold Zn at k; omega)).keep s (by omega), (h.ho.keep st (fun k => by unfold Zn at k; omega)).keep s (by omega), (h.ct.keep st (fun k => by unfold Zn at k; omega)).keep s (by omega), (h.ua.keep st (fun k => by unfold Zn at k; omega)).keep s (by omega), (h.mu.keep st (fun k => by unfold Zn at k; omega)).keep s (by omega), (h.bk.keep st (fun k => by unfold Zn at k; omega)).keep s (by omega), (h.bv.keep st (fun k => by unfold Zn at k; omega)).keep s (by omega), hb.keep s (fun lab k e => by omega), (h.ck.keep st (fun lab k e => by unfold Zn at k; omega)).keep s (fun lab k e => by omega), (h.tr.keep st (fun lab k e => by unfold Zn at k; unfold Tz at e; omega)).keep s (fun lab k e => by unfold Tz at e; omega), rfl, h.ckx⟩, (st.mono (fun lab k => by unfold Zn at k; unfold RqZ; omega)).trans (s.mono (fun lab e => by unfold RqZ; omega))⟩
theorem RqC.set_buf {l l1 : Nat → Nat} {w w1 : World} {q p : Nat} {G : RqG} {R : RqV} (h : RqC l w q p G R) (st : Stp (Any3 q (q + 8) (q + 9)) l l1 w w1) {kv1 vv1 : Value} {kx vx : List Int} (hc : Cl l1 w1 q p 54 (((G.cells R).setIfInBounds 14 kv1).setIfInBounds (14 + 1) vv1)) (hk : Bf l1 w1 (q + 8) kv1 kx) (hv : Bf l1 w1 (q + 9) vv1 vx) : RqC l1 w1 q p { G with bk := kv1, bkx := kx, bv := vv1, bvx := vx } R ∧ Stp (RqZ q) l l1 w w1 := by
  have h1 := h.hq
  have h2 := h.hq'
  exact ⟨⟨h1, h2, hc, h.lb.keep st (fun k => by unfold Any3 at k; omega), h.me.keep st (fun k => by unfold Any3 at k; omega), h.ur.keep st (fun k => by unfold Any3 at k; omega), h.ho.keep st (fun k => by unfold Any3 at k; omega), h.ct.keep st (fun k => by unfold Any3 at k; omega), h.ua.keep st (fun k => by unfold Any3 at k; omega), h.mu.keep st (fun k => by unfold Any3 at k; omega), hk, hv, h.h.keep st (fun lab k e => by unfold Any3 at k; omega), h.ck.keep st (fun lab k e => by unfold Any3 at k; omega), h.tr.keep st (fun lab k e => by unfold Any3 at k; unfold Tz at e; omega), h.hx, h.ckx⟩, st.mono (fun lab k => by unfold Any3 at k; unfold RqZ; omega)⟩
def RqV.new : RqV := ⟨false, false, false, false, 0, [], [], [], [], [], [], ByteArray.empty, [], none, []⟩
def RqG.new : RqG := ⟨.slice none 0 0, .slice none 0 0, .slice none 0 0, .slice none 0 0, .slice none 0 0, .slice none 0 0, .slice none 0 0, .slice none 0 0, .slice none 0 0, [], .slice none 0 0, [], .slice none 0 0, [], false, .pointer none, 0, [], 0, []⟩
theorem RqC.new {l : Nat → Nat} {w : World} {q p : Nat} (h1 : 0 < q) (h2 : q + 15 < 64) (hc : Cl l w q p 54 (RqG.new.cells RqV.new)) : RqC l w q p RqG.new RqV.new :=
  ⟨h1, h2, hc, Bf.nil l w _, Bf.nil l w _, Bf.nil l w _, Bf.nil l w _, Bf.nil l w _, Bf.nil l w _, Rw.nil l w _ _, Bf.nil l w _, Bf.nil l w _, KvS.nil l w _ (by omega), KvS.nil l w _ (by omega), TrO.nil l w _, rfl, rfl⟩
open Go.Proofs.YtcbpbmflgcgmaaaDoor.QA
def eqB (xs ys : List Int) : Bool := (strOfNums xs).toList == (strOfNums ys).toList
theorem equal_calls (W : World) (A B : Option Addr) (c d : Nat) (xs ys : List Int) (hx : ReadsInt W .u8 A xs.length xs) (hc : xs.length ≤ c) (hy : ReadsInt W .u8 B ys.length ys) (hd : ys.length ≤ d) :
    Calls Tryd.prog 121 #[.slice A xs.length c, .slice B ys.length d] W fun e w' => e = .returned (.bool (eqB xs ys)) ∧ ∃ m, w' = W.drewN m := by
  refine (bytes_Equal.calls A c xs B d ys (eqB xs ys) W (Kd.C_of_reads (d := (0 : Int)) (h1 := fun _ => rfl) hx) hc (Kd.C_of_reads (d := (0 : Int)) (h1 := fun _ => rfl) hy) hd rfl).mono ?_
  rintro e w' ⟨rfl, ⟨m, rfl⟩⟩
  exact ⟨rfl, m, rfl⟩
theorem drew_stp (F : Nat → Prop) (l : Nat → Nat) (w : World) (m : Nat) : Stp F l l w (w.drewN m) := Stp.of_below_same (pw_below_drewN (Below.refl _ _) m) F l
theorem Bf.drewN {l : Nat → Nat} {w : World} {z : Nat} {v : Value} {xs : List Int} (h : Bf l w z v xs) (m : Nat) : Bf l (w.drewN m) z v xs := h.keep (drew_stp (fun _ => False) l w m) (fun k => k)
theorem Src.drewN {F : Nat → Prop} {l : Nat → Nat} {w : World} {A : Option Addr} {m : Nat} {xs : List Int} (h : Src F l w A m xs) (k : Nat) : Src F l (w.drewN k) A m xs := h.step (drew_stp F l w k)
theorem Kv.look {l : Nat → Nat} {w : World} {z a : Nat} {S : List Slot} (h : Kv l w z a S) {i : Nat} {s : Slot} (hs : S[i]? = some s) :
    (∃ A c, s.k = .slice A s.kx.length c ∧ w.cell? ⟨a, i * 3, none⟩ = some (.slice A s.kx.length c) ∧ s.kx.length ≤ c ∧ ReadsInt w .u8 A s.kx.length s.kx) ∧
    (∃ A c, s.v = .slice A s.vx.length c ∧ w.cell? ⟨a, i * 3 + 1, none⟩ = some (.slice A s.vx.length c) ∧ s.vx.length ≤ c ∧ ReadsInt w .u8 A s.vx.length s.vx) ∧ w.cell? ⟨a, i * 3 + 2, none⟩ = some (.bool s.no) := by
  obtain ⟨c0, c1, c2⟩ := h.cell hs
  obtain ⟨hk, hv⟩ := h.row hs
  obtain ⟨A, c, e, hc⟩ := hk.slice
  obtain ⟨B, d, e', hd⟩ := hv.slice
  have r1 := hk
  have r2 := hv
  rw [e] at r1
  rw [e'] at r2
  exact ⟨⟨A, c, e, by rw [c0, e], hc, r1.reads⟩, ⟨B, d, e', by rw [c1, e'], hd, r2.reads⟩, c2⟩
def setKV (k v : List Int) : List KVx → List KVx
  | [] => [⟨k, v, false⟩]
  | x :: t => if eqB k x.k = true then ⟨x.k, v, false⟩ :: t else x :: setKV k v t
theorem setKV_hit (k v : List Int) : ∀ (l : List KVx) (i : Nat) (x : KVx), l[i]? = some x → eqB k x.k = true → (∀ (j : Nat) (y : KVx), j < i → l[j]? = some y → eqB k y.k = false) → setKV k v l = l.set i ⟨x.k, v, false⟩
  | [], i, x, h, _, _ => by simp at h
  | y :: t, 0, x, h, he, _ => by
    simp only [List.getElem?_cons_zero, Option.some.injEq] at h
    subst h
    simp [setKV, he]
  | y :: t, i + 1, x, h, he, hn => by
    have h0 := hn 0 y (by omega) rfl
    have ih := setKV_hit k v t i x (by simpa using h) he (fun j z hj hz => hn (j + 1) z (by omega) (by simpa using hz))
    simp [setKV, h0, ih]
theorem setKV_miss (k v : List Int) : ∀ (l : List KVx), (∀ (j : Nat) (y : KVx), l[j]? = some y → eqB k y.k = false) → setKV k v l = l ++ [⟨k, v, false⟩]
  | [], _ => rfl
  | y :: t, hn => by
    have h0 := hn 0 y rfl
    have ih := setKV_miss k v t (fun j z hz => hn (j + 1) z (by simpa using hz))
    simp [setKV, h0, ih]
def getKV (k : List Int) : List KVx → Option (List Int)
  | [] => none
  | x :: t => if eqB x.k k = true then some x.v else getKV k t
theorem getKV_hit (k : List Int) : ∀ (l : List KVx) (i : Nat) (x : KVx), l[i]? = some x → eqB x.k k = true → (∀ (j : Nat) (y : KVx), j < i → l[j]? = some y → eqB y.k k = false) → getKV k l = some x.v
  | [], i, x, h, _, _ => by simp at h
  | y :: t, 0, x, h, he, _ => by
    simp only [List.getElem?_cons_zero, Option.some.injEq] at h
    subst h
    simp [getKV, he]
  | y :: t, i + 1, x, h, he, hn => by
    have h0 := hn 0 y (by omega) rfl
    have ih := getKV_hit k t i x (by simpa using h) he (fun j z hj hz => hn (j + 1) z (by omega) (by simpa using hz))
    simp [getKV, h0, ih]
theorem getKV_miss (k : List Int) : ∀ (l : List KVx), (∀ (j : Nat) (y : KVx), l[j]? = some y → eqB y.k k = false) → getKV k l = none
  | [], _ => rfl
  | y :: t, hn => by
    have h0 := hn 0 y rfl
    have ih := getKV_miss k t (fun j z hz => hn (j + 1) z (by simpa using hz))
    simp [getKV, h0, ih]
theorem nn_set_at {S : List Slot} {n i : Nat} (h0 : ∀ s ∈ S.take n, s.v.ownBlock ≠ none) (s : Slot) (hs : s.v.ownBlock ≠ none) : ∀ t ∈ (S.set i s).take n, t.v.ownBlock ≠ none := by
  intro t ht
  rw [List.take_set] at ht
  rcases List.mem_or_eq_of_mem_set ht with h | rfl
  · exact h0 t h
  · exact hs
theorem nn_at {S : List Slot} {n i : Nat} {s : Slot} (h0 : ∀ s ∈ S.take n, s.v.ownBlock ≠ none) (hs : S[i]? = some s) (hi : i < n) : s.v.ownBlock ≠ none :=
  h0 s (List.mem_of_getElem? (i := i) (by rw [List.getElem?_take, if_pos hi]; exact hs))
theorem kvs_get {S : List Slot} {n j : Nat} {y : KVx} (h : (kvs S n)[j]? = some y) : ∃ s, S[j]? = some s ∧ j < n ∧ y = ⟨s.kx, s.vx, s.no⟩ := by
  unfold kvs at h
  rw [List.getElem?_map, List.getElem?_take] at h
  split at h
  · rename_i hj
    cases hs : S[j]? with
    | none => rw [hs] at h; cases h
    | some s => rw [hs] at h; exact ⟨s, rfl, hj, (Option.some.inj h).symm⟩
  · cases h
end Go.Proofs.YtcbpbmflgcgmaaaDoor.Own
namespace Go.Proofs.YtcbpbmflgcgmaaaDoor.Own
open Go.RowKit Go.Proofs.YtcbpbmflgcgmaaaDoorW.PrintWords Go.Proofs.YtcbpbmflgcgmaaaDoorW.PrintLast Go.Proofs.YtcbpbmflgcgmaaaDoorW.PrintMore Go.Proofs.YtcbpbmflgcgmaaaDoor.Base Go.Proofs.YtcbpbmflgcgmaaaDoor.Gv
set_option maxHeartbeats 2000000 in
set_option maxRecDepth 100000 in
theorem appendArgBytes_false (l : Nat → Nat) (w : World) (z n : Nat) (V : Value) (S : List Slot) (h : KvS l w z V n S) (hn : n ≤ 1099511627775) (A : Option Addr) (m c : Nat) (kx : List Int) (hks : m ≤ 140737488355328) (hk : Src (Zn z) l w A m kx) (B : Option Addr) (m' c' : Nat) (vx : List Int) (hvs : m' ≤ 140737488355328) (hv : Src (Zn z) l w B m' vx) :
    Calls Tryd.prog 134 #[V, .slice A m c, .slice B m' c', .bool false] w fun e w' => ∃ l1 V1 S1, e = .returned V1 ∧ KvS l1 w' z V1 (n + 1) S1 ∧ kvs S1 (n + 1) = kvs S n ++ [⟨kx, vx, false⟩] ∧ Stp (Zn z) l l1 w w' := by
  have hz := h.1
  have HNN := Lib.hid h.2.1
  have HA := Lib.hid (allocArg_calls l w z n V S h (by omega))
  have hcz := cutz
  have HSK := Lib.hid hk
  have HSV := Lib.hid hv
  clear hk hv
  clear h
  go_enter Tryd.func134, Tryd.ntmps134
  go_wp2_with (first
    | (go_at_call 150
       refine HA.out.mono ?_
       rintro e w1 ⟨l1, a, S1, s, rfl, k1, k2, k3, k4, k5, k6, k7⟩
       obtain ⟨⟨A1, n1, c1, e1, z0, b1⟩, ⟨A2, n2, c2, e2, z1, b2⟩, z2, f0, f1, f2⟩ := k1.at (l := l1) k5
       have K1 := Lib.hid k1
       have K2' := Lib.hid k2
       have K3 := Lib.hid k3
       have K4 := Lib.hid k4
       have K5 := Lib.hid k5
       have K6 := Lib.hid k6
       have K7 := Lib.hid k7
       have B1 := Lib.hid b1
       clear k1 k2 k3 k4 k5 k6 k7 b1 b2 e1 e2)
    | (at_builtin
       refine app_row (kLab z s.id) rfl (.tmp 20) (.tmp 21) 47 rfl Tryd.underlying47 info8 _ [] kx A m c rfl rfl B1.out (HSK.out.step K7.out).now (by simp; omega) ?_
       intro v1 w2 l2 hB2 st2 hn2
       rw [List.nil_append] at hB2
       obtain ⟨vA, vc, rfl, _⟩ := hB2.slice
       obtain ⟨y0, g0⟩ := K1.out.cells_keep st2 (kLab_ne hz) (n * 3)
       rw [z0] at y0
       have K2 := Lib.hid (K1.out.storeK K5.out hB2 st2)
       obtain ⟨⟨A3, n3, c3, e3, x0, b3⟩, ⟨A4, n4, c4, e4, x1, b4⟩, x2, h0, h1, h2⟩ := K2.out.1.at l2 (get_set K5.out)
       have B4 := Lib.hid b4
       have E4 := Lib.hid e4
       clear hB2 hn2 st2 e3 b3 e4 b4)
    | (at_builtin
       refine app_row (vLab z s.id) rfl (.tmp 39) (.tmp 40) 47 rfl Tryd.underlying47 info8 _ [] vx B m' c' rfl rfl B4.out ((HSV.out.step K7.out).step K2.out.2).now (by simp; omega) ?_
       intro v2 w3 l3 hB3 st3 hn3
       rw [List.nil_append] at hB3
       obtain ⟨uA, uc, rfl, _⟩ := hB3.slice
       obtain ⟨y1, g1⟩ := K2.out.1.cells_keep st3 (vLab_ne hz) (n * 3 + 1)
       rw [x1] at y1
       have K8 := Lib.hid (K2.out.1.storeV (get_set K5.out) hB3 st3)
       have N3 := Lib.hid hn3
       obtain ⟨⟨A5, n5, c5, e5, u0, b5⟩, ⟨A6, n6, c6, e6, u1, b6⟩, u2, j0, j1, j2⟩ := K8.out.1.at l3 (get_set (get_set K5.out))
       have K9 := Lib.hid (K8.out.1.storeN (get_set (get_set K5.out)) false)
       clear hB3 st3 hn3 e5 b5 e6 b6))
  go_ret
  have K10 := K9.out
  rw [set_set_at, set_set_at] at K10
  refine ⟨_, _, rfl, _, ⟨hz, nn_set HNN.out K4.out K2'.out _ ?_, .inr ⟨a, by rw [List.length_set]; rfl, by rw [List.length_set]; exact K2'.out, by rw [List.length_set]; exact K3.out, K10.1⟩⟩, take_set_snoc K4.out K2'.out _, ((K7.out.trans K2.out.2).trans K8.out.2).trans K10.2⟩
  exact N3.out (by
    have h1 := K6.out
    have h2 : s.v = _ := E4.out
    rw [h2] at h1
    cases A4 with
    | none => exact absurd rfl h1
    | some q => exact fun e => by cases e)
set_option maxHeartbeats 4000000 in
set_option maxRecDepth 100000 in
theorem setArgBytes_calls (l : Nat → Nat) (w : World) (z n : Nat) (V : Value) (S : List Slot) (h : KvS l w z V n S) (hn : n ≤ 1099511627775) (A : Option Addr) (c : Nat) (kx : List Int) (hks : kx.length ≤ 140737488355328) (hkc : kx.length ≤ c) (hk : Src (Zn z) l w A kx.length kx) (B : Option Addr) (m' c' : Nat) (vx : List Int) (hvs : m' ≤ 140737488355328) (hv : Src (Zn z) l w B m' vx) :
    Calls Tryd.prog 75 #[V, .slice A kx.length c, .slice B m' c', .bool false] w fun e w' => ∃ l1 V1 n1 S1, e = .returned V1 ∧ KvS l1 w' z V1 n1 S1 ∧ n1 ≤ n + 1 ∧ kvs S1 n1 = setKV kx vx (kvs S n) ∧ Stp (Zn z) l l1 w w' := by
  have hcz := cutz
  have hz := h.1
  have HNN := Lib.hid h.2.1
  have hV : ∃ A0 c0, V = .slice A0 n c0 := by
    obtain ⟨_, _, ⟨rfl, _, rfl⟩ | ⟨a0, rfl, _⟩⟩ := h
    · exact ⟨none, 0, rfl⟩
    · exact ⟨_, _, rfl⟩
  obtain ⟨A0, c0, rfl⟩ := hV
  have HH := Lib.hid h
  have HSK := Lib.hid hk
  have HSV := Lib.hid hv
  obtain ⟨K, hK⟩ : ∃ K, kx.length = K := ⟨_, rfl⟩
  rw [hK] at hks hkc
  have HK := Lib.hid hK
  rw [hK]
  clear h hk hv hK
  go_enter Tryd.func75, Tryd.ntmps75
  go_wp2
  go_loopw [10, 11] (fun iv _ wr => ∃ i m : Nat, iv = .int .i64 i ∧ wr = w.drewN m ∧ i ≤ n ∧ Hid (∀ (j : Nat) (y : KVx), j < i → (kvs S n)[j]? = some y → eqB kx y.k = false)) (fun iv _ _ => n - (intOf iv).toNat)
  case atStart => exact ⟨0, 0, rfl, by first | rfl | simp, by omega, Lib.hid (fun j y hj => absurd hj (by omega))⟩
  case round =>
    obtain ⟨i, m, rfl, rfl, hi, HM⟩ := hrel
    by_cases hlt : i < n
    · have q1 : (i : Int) < (n : Int) := by omega
      obtain ⟨hz', hnn', ⟨e0, _, _⟩ | ⟨a, e0, hle, hmx, hkv⟩⟩ := HH.out
      · cases e0; omega
      · obtain ⟨e1, e2⟩ : A0 = some ⟨a, 0, none⟩ ∧ c0 = S.length := by cases e0; exact ⟨rfl, rfl⟩
        subst e1 e2
        obtain ⟨s, hs⟩ := get_some (S := S) (n := i) (by omega)
        obtain ⟨⟨A1, c1, ek, z0, hc1, r1⟩, ⟨A2, c2, ev, z1, hc2, r2⟩, z2⟩ := hkv.look hs
        have HE := Lib.hid (equal_calls (w.drewN m) A A1 c c1 kx s.kx ((HSK.out.drewN m).now) (by rw [HK.out]; exact hkc) r1 hc1)
        rw [HK.out] at HE
        have hkat := kvs_at (n := n) hs hlt
        obtain ⟨r, hr⟩ : ∃ r, eqB kx s.kx = r := ⟨_, rfl⟩
        rw [hr] at HE
        have HKV := Lib.hid hkv
        have HS := Lib.hid hs
        have HLE := Lib.hid hle
        have HMX := Lib.hid hmx
        have HR := Lib.hid hr
        have HAT := Lib.hid hkat
        have EV := Lib.hid ev
        obtain ⟨kl, hkl⟩ : ∃ k, s.kx.length = k := ⟨_, rfl⟩
        obtain ⟨vl, hvl⟩ : ∃ k, s.vx.length = k := ⟨_, rfl⟩
        rw [hkl] at z0 HE
        rw [hvl] at z1
        have HVL := Lib.hid hvl
        have hic : i < S.length := by omega
        clear hkv hs hle hmx hr hkat ek ev r1 r2 hc1 hc2 hz' hnn' hkl hvl
        cases r with
        | false =>
          go_wp2_with (go_at_call 121; refine HE.out.mono ?_; rintro e w1 ⟨rfl, m1, rfl⟩)
          go_roundw
          case rel =>
            refine ⟨i + 1, m + m1, by go_num, by first | rfl | rw [drewN_add], by omega, Lib.hid (fun j y hj hy => ?_)⟩
            rcases Nat.lt_or_ge j i with h | h
            · exact HM.out j y h hy
            · obtain rfl : j = i := by omega
              rw [HAT.out] at hy
              cases hy
              exact HR.out
          case measure => simp [intOf]; omega
        | true =>
          have BV := Lib.hid (show Bf l w (vLab z s.id) (.slice A2 0 c2) [] by
            have := (HKV.out.row HS.out).2
            rw [EV.out] at this
            exact this.cut0.2)
          go_wp2_with (first
            | (go_at_call 121; refine HE.out.mono ?_; rintro e w1 ⟨rfl, m1, rfl⟩)
            | (at_builtin
               refine app_row (l := l) (vLab z s.id) rfl (.tmp 42) (.tmp 43) 47 rfl Tryd.underlying47 info8 _ [] vx B m' c' rfl rfl (by first | exact BV.out.drewN _ | exact (BV.out.drewN _).drewN _) (by first | exact (HSV.out.drewN _).now | exact ((HSV.out.drewN _).drewN _).now) (by simp; omega) ?_
               intro v1 w2 l2 hB2 st2 hn2
               rw [List.nil_append] at hB2
               obtain ⟨vA, vc, rfl, _⟩ := hB2.slice
               have hst2 := (drew_stp (· = vLab z s.id) l w _).trans st2
               obtain ⟨y1, g1⟩ := HKV.out.cells_keep hst2 (vLab_ne hz) (i * 3 + 1)
               rw [z1] at y1
               have K8 := Lib.hid (HKV.out.storeV HS.out hB2 hst2)
               have N3 := Lib.hid hn2
               obtain ⟨⟨A5, n5, c5, e5, u0, b5⟩, ⟨A6, n6, c6, e6, u1, b6⟩, u2, j0, j1, j2⟩ := K8.out.1.at l2 (get_set HS.out)
               have K9 := Lib.hid (K8.out.1.storeN (get_set HS.out) false)
               clear hB2 st2 hst2 hn2 e5 b5 e6 b6))
          go_ret
          have K10 := K9.out
          rw [set_set_at] at K10
          have hnv := N3.out (by
            have h1 := nn_at HNN.out HS.out hlt
            rw [EV.out] at h1
            cases A2 with
            | none => exact absurd rfl h1
            | some q => exact fun e => by cases e)
          refine ⟨_, _, rfl, n, _, ⟨hz, nn_set_at HNN.out _ hnv, .inr ⟨a, by rw [List.length_set]; rfl, by rw [List.length_set]; exact HLE.out, by rw [List.length_set]; exact HMX.out, K10.1⟩⟩, by omega, ?_, K8.out.2.trans K10.2⟩
          rw [kvs_set hlt, setKV_hit kx vx (kvs S n) i _ HAT.out HR.out HM.out]
    · obtain rfl : n = i := by omega
      have hmiss := setKV_miss kx vx (kvs S n) (fun j y hy => by
        obtain ⟨s, _, hj, _⟩ := kvs_get hy
        exact HM.out j y hj hy)
      have HMISS := Lib.hid hmiss
      have HAP := Lib.hid (fun m => appendArgBytes_false l (w.drewN m) z n (.slice A0 n c0) S (HH.out.keep (drew_stp (fun _ => False) l w m) (fun _ k => k.elim)) hn A K c kx hks (by have := HSK.out.drewN m; rwa [HK.out] at this) B m' c' vx hvs (HSV.out.drewN m))
      have q1 : ¬ ((n : Int) < (n : Int)) := by omega
      clear hmiss
      go_wp2_with (go_at_call 134; refine (HAP.out m).mono ?_; rintro e w1 ⟨l1, V1, S1, rfl, h1, h2, h3⟩)
      go_ret
      exact ⟨_, _, _, _, rfl, h1, Nat.le_refl _, by rw [h2, HMISS.out], (drew_stp _ _ _ _).trans h3⟩
def PeekSays (w : World) (r : Option (List Int)) (v : Value) : Prop := (r = none ∧ v = .slice none 0 0) ∨ ∃ A c vx, r = some vx ∧ v = .slice A vx.length c ∧ vx.length ≤ c ∧ ReadsInt w .u8 A vx.length vx ∧ A ≠ none
theorem conv_text {w : World} {A : Option Addr} {c : Nat} {xs : List Int} (h : ReadsInt w .u8 A xs.length xs) : (convert 47 9 (.slice A xs.length c)).run Tryd.prog w = .ok (.string (strOfNums xs)) w := by
  have := Kd.C_string (P := Tryd.prog) (A := A) (c := c) Tryd.underlying47 Tryd.underlying5 Tryd.underlying9 (Kd.C_of_reads (d := (0 : Int)) (h1 := fun _ => rfl) h)
  simpa using this
theorem text_ns (s : ByteArray) : strOfNums (ns s) = s := ns_inj (ns_strOfNums (fun x hx => ns_range s x hx))
set_option maxHeartbeats 4000000 in
set_option maxRecDepth 100000 in
theorem peekArgStr_calls (l : Nat → Nat) (w : World) (z n : Nat) (V : Value) (S : List Slot) (h : KvS l w z V n S) (hn : n ≤ 1099511627776) (key : ByteArray) :
    Calls Tryd.prog 81 #[V, .string key] w fun e w' => ∃ v, e = .returned v ∧ PeekSays w (getKV (ns key) (kvs S n)) v ∧ w' = w := by
  have hcz := cutz
  have hz := h.1
  have HNN := Lib.hid h.2.1
  have hV : ∃ A0 c0, V = .slice A0 n c0 := by
    obtain ⟨_, _, ⟨rfl, _, rfl⟩ | ⟨a0, rfl, _⟩⟩ := h
    · exact ⟨none, 0, rfl⟩
    · exact ⟨_, _, rfl⟩
  obtain ⟨A0, c0, rfl⟩ := hV
  have HH := Lib.hid h
  clear h
  go_enter Tryd.func81, Tryd.ntmps81
  go_wp2
  go_loopw [5, 7] (fun iv _ wr => ∃ i : Nat, iv = .int .i64 i ∧ wr = w ∧ i ≤ n ∧ Hid (∀ (j : Nat) (y : KVx), j < i → (kvs S n)[j]? = some y → eqB y.k (ns key) = false)) (fun iv _ _ => n - (intOf iv).toNat)
  case atStart => exact ⟨0, rfl, by first | rfl | trivial, by omega, Lib.hid (fun j y hj => absurd hj (by omega))⟩
  case round =>
    obtain ⟨i, rfl, rfl, hi, HM⟩ := hrel
    by_cases hlt : i < n
    · have q1 : (i : Int) < (n : Int) := by omega
      obtain ⟨hz', hnn', ⟨e0, _, _⟩ | ⟨a, e0, hle, hmx, hkv⟩⟩ := HH.out
      · cases e0; omega
      · obtain ⟨e1, e2⟩ : A0 = some ⟨a, 0, none⟩ ∧ c0 = S.length := by cases e0; exact ⟨rfl, rfl⟩
        subst e1 e2
        obtain ⟨s, hs⟩ := get_some (S := S) (n := i) (by omega)
        obtain ⟨⟨A1, c1, ek, z0, hc1, r1⟩, ⟨A2, c2, ev, z1, hc2, r2⟩, z2⟩ := hkv.look hs
        have hcv := conv_text (c := c1) r1
        have hkat := kvs_at (n := n) hs hlt
        obtain ⟨r, hr⟩ : ∃ r, eqB s.kx (ns key) = r := ⟨_, rfl⟩
        have hcmp : ((strOfNums s.kx).toList == key.toList) = r := by rw [← hr]; unfold eqB; rw [text_ns]
        have HKV := Lib.hid hkv
        have HS := Lib.hid hs
        have HLE := Lib.hid hle
        have HMX := Lib.hid hmx
        have HR := Lib.hid hr
        have HAT := Lib.hid hkat
        have EV := Lib.hid ev
        obtain ⟨kl, hkl⟩ : ∃ k, s.kx.length = k := ⟨_, rfl⟩
        obtain ⟨vl, hvl⟩ : ∃ k, s.vx.length = k := ⟨_, rfl⟩
        rw [hkl] at z0 hcv
        obtain ⟨X, hX⟩ : ∃ X, strOfNums s.kx = X := ⟨_, rfl⟩
        rw [hX] at hcv hcmp
        rw [hvl] at z1
        have HVL := Lib.hid hvl
        have hic : i < S.length := by omega
        clear hkv hs hle hmx hr hkat ek ev r1 r2 hc1 hc2 hz' hnn' hkl hvl hX
        cases r with
        | false =>
          go_wp2
          go_roundw
          case rel =>
            refine ⟨i + 1, by go_num, by first | rfl | trivial, by omega, Lib.hid (fun j y hj hy => ?_)⟩
            rcases Nat.lt_or_ge j i with h | h
            · exact HM.out j y h hy
            · obtain rfl : j = i := by omega
              rw [HAT.out] at hy
              cases hy
              exact HR.out
          case measure => simp [intOf]; omega
        | true =>
          have HPS := Lib.hid (show PeekSays wr (getKV (ns key) (kvs S n)) (.slice A2 vl c2) by
            have h1 := getKV_hit (ns key) (kvs S n) i _ HAT.out HR.out HM.out
            have h2 := (HKV.out.look HS.out).2.1
            obtain ⟨A3, c3, e3, _, h3, h4⟩ := h2
            rw [EV.out] at e3
            injection e3 with e3 e4 e5
            subst e3 e5
            rw [← HVL.out]
            have h5 := nn_at HNN.out HS.out hlt
            rw [EV.out] at h5
            refine .inr ⟨A2, c2, s.vx, h1, rfl, h3, h4, fun e => ?_⟩
            subst e
            exact h5 rfl)
          go_wp2
          go_ret
          exact ⟨_, rfl, HPS.out, rfl⟩
    · obtain rfl : n = i := by omega
      have HPS := Lib.hid (show PeekSays wr (getKV (ns key) (kvs S n)) (.slice none 0 0) from .inl ⟨getKV_miss (ns key) (kvs S n) (fun j y hy => by
        obtain ⟨s, _, hj, _⟩ := kvs_get hy
        exact HM.out j y hj hy), rfl⟩)
      have q1 : ¬ ((n : Int) < (n : Int)) := by omega
      go_wp2
      go_ret
      exact ⟨_, rfl, HPS.out, rfl⟩
def Rg (xs : List Int) : Prop := ∀ x ∈ xs, 0 ≤ x ∧ x ≤ 255
theorem str_inj {a b : List Int} (ha : Rg a) (hb : Rg b) (h : strOfNums a = strOfNums b) : a = b := by
  have := congrArg ns h
  rwa [ns_strOfNums ha, ns_strOfNums hb] at this
def zzI (i : Nat) : Option Nat → Int
  | none => -1
  | some n => ((i + n : Nat) : Int)
theorem idxL_short {e xs : List Int} (h : xs.length < e.length) : idxL e xs = none := by
  cases hi : idxL e xs with
  | none => rfl
  | some n => have := idxL_le e xs n hi; omega
theorem idxL_hit {e xs : List Int} (h : e <+: xs) : idxL e xs = some 0 := by
  cases xs with
  | nil => simp at h; subst h; rfl
  | cons x t => unfold idxL; rw [if_pos h]
theorem zz_miss {e xs : List Int} {i : Nat} (hl : i + e.length ≤ xs.length) (hp : ¬ e <+: xs.drop i) : i + 1 ≤ xs.length ∧ zzI i (idxL e (xs.drop i)) = zzI (i + 1) (idxL e (xs.drop (i + 1))) := by
  have hdl : (xs.drop i).length = xs.length - i := List.length_drop
  obtain ⟨x, t, hxt⟩ : ∃ x t, xs.drop i = x :: t := by
    cases h : xs.drop i with
    | nil =>
      have : e = [] := List.eq_nil_of_length_eq_zero (by rw [h] at hdl; simp at hdl; omega)
      subst this
      exact absurd (List.nil_prefix) hp
    | cons x t => exact ⟨x, t, rfl⟩
  have ht : xs.drop (i + 1) = t := by rw [← List.drop_drop, hxt]; rfl
  refine ⟨by rw [hxt] at hdl; simp at hdl; omega, ?_⟩
  rw [ht, hxt]
  rw [hxt] at hp
  rw [idxL, if_neg hp]
  cases idxL e t with
  | none => rfl
  | some n => simp only [Option.map_some, zzI]; congr 1; omega
theorem reads_drewN {w : World} {A : Option Addr} {xs : List Int} (h : ReadsInt w .u8 A xs.length xs) (m : Nat) : ReadsInt (w.drewN m) .u8 A xs.length xs := by
  refine ⟨h.1, h.2.1, fun h0 => ?_⟩
  obtain ⟨a, e, hc⟩ := h.2.2 h0
  exact ⟨a, e, fun i hi => by rw [← hc i hi]; simp⟩
set_option maxHeartbeats 4000000 in
set_option maxRecDepth 100000 in
theorem zzB_calls (w : World) (A0 : Option Addr) (c0 : Nat) (xs : List Int) (hr0 : ReadsInt w .u8 A0 xs.length xs) (hc0 : xs.length ≤ c0) (A1 : Option Addr) (c1 : Nat) (e : List Int) (hr1 : ReadsInt w .u8 A1 e.length e) (hc1 : e.length ≤ c1)
    (hx : Rg xs) (he : Rg e) (hs : xs.length ≤ 140737488355328) (hm : e.length ≤ 140737488355328) :
    Calls Tryd.prog 62 #[.slice A0 xs.length c0, .slice A1 e.length c1] w fun en w' => en = .returned (.int .i64 (zzI 0 (idxL e xs))) ∧ ∃ m, w' = w.drewN m := by
  obtain ⟨N, hN⟩ : ∃ N, xs.length = N := ⟨_, rfl⟩
  obtain ⟨M, hM⟩ : ∃ M, e.length = M := ⟨_, rfl⟩
  have HC := fun (i : Nat) (hi : i + M ≤ N) => Lib.hid (print_mid_of (P := Tryd.prog) (Value.int .u8) 0 47 5 .i64 .i64 Tryd.underlying47 (info_parts info8).choose_spec.1 (info_parts info8).choose_spec.2.2.1 A0 c0 xs (i : Int) ((i : Int) + M) (by omega) (by omega) (by omega) hc0)
  have HR0 := Lib.hid hr0
  have HR1 := Lib.hid hr1
  have HXS := Lib.hid hx
  have HES := Lib.hid he
  have HN := Lib.hid hN
  have HM := Lib.hid hM
  rw [hN, hM]
  rw [hN] at hc0 hs
  rw [hM] at hc1 hm
  clear hr0 hr1 hx he hN hM
  go_enter Tryd.func62, Tryd.ntmps62
  go_wp2
  go_loopw [5] (fun iv wr => ∃ i m : Nat, iv = .int .i64 i ∧ wr = w.drewN m ∧ i ≤ N ∧ Hid (zzI 0 (idxL e xs) = zzI i (idxL e (xs.drop i)))) (fun iv _ => N - (intOf iv).toNat)
  case atStart => exact ⟨0, 0, rfl, by first | rfl | simp, by omega, Lib.hid rfl⟩
  case round =>
    obtain ⟨i, m, rfl, rfl, hi, HI⟩ := hrel
    have hwr : IntKind.i64.wrap ((i : Int) + (M : Int)) = (i : Int) + (M : Int) := by rw [IntKind.wrap_i64]; omega
    by_cases hl : i + M ≤ N
    · have q1 : (i : Int) + (M : Int) ≤ (N : Int) := by omega
      obtain ⟨A8, hcut, hrd, hle⟩ := (HC i hl).out
      have hwin : (xs.take ((i : Int) + M).toNat).drop (i : Int).toNat = (xs.drop i).take M := by
        rw [show ((i : Int) + M).toNat = i + M by omega, Int.toNat_natCast, List.drop_take]
        congr 1; omega
      rw [hwin] at hcut hrd hle
      rw [HN.out] at hcut
      have hy := hrd _ HR0.out
      have hcv := fun n => conv_text (c := c0 - i) (reads_drewN hy n)
      have hcv1 := fun n => conv_text (c := c1) (reads_drewN HR1.out n)
      have hyl : ((xs.drop i).take M).length = M := by rw [List.length_take, List.length_drop, HN.out]; omega
      rw [hyl] at hcut
      simp only [hyl] at hcv
      simp only [HM.out] at hcv1
      obtain ⟨X, hX⟩ : ∃ X, strOfNums ((xs.drop i).take M) = X := ⟨_, rfl⟩
      obtain ⟨E, hE⟩ : ∃ E, strOfNums e = E := ⟨_, rfl⟩
      simp only [hX] at hcv
      simp only [hE] at hcv1
      obtain ⟨r, hr⟩ : ∃ r, (X.toList == E.toList) = r := ⟨_, rfl⟩
      have HX := Lib.hid hX
      have HE := Lib.hid hE
      have HR := Lib.hid hr
      clear hrd hle hwin hy hyl hX hE
      go_wp2
      go_quiet (fail)
      cases r with
      | true =>
        go_wp2
        go_ret
        refine ⟨?_, _, by first | rfl | rw [World.drewN_drewN]⟩
        have hp : e <+: xs.drop i := by
          have h1 := beq_iff_eq.1 HR.out
          rw [toList_eq_iff, ← HX.out, ← HE.out] at h1
          have h2 := str_inj (fun y hy => HXS.out y (List.mem_of_mem_drop (List.mem_of_mem_take hy))) HES.out h1
          exact List.prefix_iff_eq_take.2 (by rw [HM.out]; exact h2.symm)
        rw [HI.out, idxL_hit hp]
        simp [zzI]
      | false =>
        have hp : ¬ e <+: xs.drop i := fun hp => by
          have h1 := List.prefix_iff_eq_take.1 hp
          rw [HM.out] at h1
          have h2 := HR.out
          rw [← HX.out, ← HE.out, ← h1] at h2
          simp at h2
        have hz := zz_miss (by rw [HM.out, HN.out]; exact hl) hp
        rw [HN.out] at hz
        obtain ⟨hz1, hz2⟩ := hz
        have HZ2 := Lib.hid hz2
        clear hz2 hp
        go_wp2
        go_roundw
        case rel => exact ⟨i + 1, m + nq, by go_num, by first | rfl | rw [World.drewN_drewN], hz1, Lib.hid (HI.out.trans HZ2.out)⟩
        case measure => simp [intOf]; omega
    · have q1 : ¬ ((i : Int) + (M : Int) ≤ (N : Int)) := by omega
      have hsh : (xs.drop i).length < e.length := by rw [List.length_drop, HM.out, HN.out]; omega
      have HE := Lib.hid (HI.out.trans (by rw [idxL_short hsh]; rfl) : zzI 0 (idxL e xs) = -1)
      clear hsh
      go_wp2
      go_ret
      refine ⟨?_, _, rfl⟩
      have e1 := HE.out
      generalize zzI 0 (idxL e xs) = R at e1 ⊢
      subst e1
      rfl
end Go.Proofs.YtcbpbmflgcgmaaaDoor.Own
