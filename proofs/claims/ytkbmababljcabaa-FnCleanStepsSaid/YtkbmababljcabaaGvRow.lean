/- A row of bytes in memory, told by a list of whole numbers: read, written, made out of a text, told as a text; a table of 256 bytes that is looked up. -/
import Derived.Test.YtkbmababljcabaaGvBase
set_option linter.unusedVariables false
namespace Go.Proofs.Ytkbmababljcabaa.Gv
open Go.RowKit Go.Proofs.YtkbmababljcabaaW.PrintWords Go.Proofs.YtkbmababljcabaaW.PrintLast Go.Proofs.YtkbmababljcabaaW.PrintMore Go.Proofs.Ytkbmababljcabaa.Base

/-- The first cells of block g are these bytes, and may be written. -/
def Br (w : World) (e : TypeId) (g : Nat) (xs : List Int) : Prop :=
  ∃ cur fr, w.heap[g]? = some (.cells cur e fr) ∧ (∀ j, j < xs.length → cur[j]? = some (.int .u8 (xs.getD j 0))) ∧ ∀ j, j < xs.length → ¬ (fr.1 ≤ j ∧ j < fr.2)
theorem Br.cell {w : World} {e : TypeId} {g : Nat} {xs : List Int} (h : Br w e g xs) (j : Nat) (hj : j < xs.length) : w.cell? ⟨g, j, none⟩ = some (.int .u8 (xs.getD j 0)) := by
  obtain ⟨cur, fr, hb, hc, _⟩ := h
  simp only [World.cell?, hb]
  exact hc j hj
theorem Br.free {w : World} {e : TypeId} {g : Nat} {xs : List Int} (h : Br w e g xs) (j : Nat) (hj : j < xs.length) : w.frozen? ⟨g, j, none⟩ = false := by
  obtain ⟨cur, fr, hb, _, hf⟩ := h
  have := hf j hj
  obtain ⟨lo, hi⟩ := fr
  simp only [World.frozen?, hb]
  simp only [Bool.and_eq_false_iff, decide_eq_false_iff_not]
  simp only at this
  omega
theorem Br.lt {w : World} {e : TypeId} {g : Nat} {xs : List Int} (h : Br w e g xs) : g < w.heap.size := by
  obtain ⟨cur, fr, hb, _⟩ := h
  exact (Array.getElem?_eq_some_iff.1 hb).1
theorem Br.set {w : World} {e : TypeId} {g : Nat} {xs : List Int} (h : Br w e g xs) (j : Nat) (v : Int) : Br (w.setCell ⟨g, j, none⟩ (.int .u8 v)) e g (xs.set j v) := by
  obtain ⟨cur, fr, hb, hc, hf⟩ := h
  refine ⟨cur.setIfInBounds j (.int .u8 v), fr, ?_, fun i hi => ?_, fun i hi => hf i (by simpa using hi)⟩
  · simp only [World.setCell, Array.getElem?_modify, if_true, hb, Option.map_some, Option.isSome_none, Bool.false_eq_true, if_false]
  · have hi' : i < xs.length := by simpa using hi
    have h1 := hc i hi'
    have hlt : i < cur.size := (Array.getElem?_eq_some_iff.1 h1).1
    rw [Array.getElem?_setIfInBounds, List.getD_eq_getElem?_getD, List.getElem?_set]
    by_cases e1 : j = i
    · subst e1; simp [hlt, hi']
    · rw [if_neg e1, if_neg e1, h1, List.getD_eq_getElem?_getD]
theorem Br.same {w w' : World} {e : TypeId} {g : Nat} {xs : List Int} (h : Br w e g xs) (hb : w'.heap[g]? = w.heap[g]?) : Br w' e g xs := by
  obtain ⟨cur, fr, h1, h2⟩ := h
  exact ⟨cur, fr, hb.trans h1, h2⟩
theorem Br.below {w w' : World} {e : TypeId} {g : Nat} {xs : List Int} (h : Br w e g xs) (hb : Below w.heap.size w w') : Br w' e g xs := h.same (hb.block g h.lt)
/-- '[]byte(s)'. -/
theorem Br.conv (w : World) (e : TypeId) (s : ByteArray) : Br (Lib.bytesWorld w e s) e w.heap.size (ns s) := by
  refine ⟨_, _, Lib.bytesWorld_at_new w e s, fun j hj => ?_, fun j hj => ?_⟩
  · rw [ns_length] at hj
    have h := Lib.bytesWorld_cell w e s j hj
    simp only [World.cell?, Lib.bytesWorld_at_new] at h
    have h2 : (ns s).getD j 0 = ((s.data.toList.getD j 0).toNat : Int) := by
      unfold ns
      rw [List.getD_eq_getElem?_getD, List.getD_eq_getElem?_getD, List.getElem?_map]
      have : j < s.data.toList.length := by rw [← Lib.size_eq]; exact hj
      rw [List.getElem?_eq_getElem this]; rfl
    rw [h2]
    simpa using h
  · rw [ns_length] at hj
    have : s.size ≤ (Lib.bytesCells w e s).size := by simp [Lib.bytesCells]
    simp only
    omega
theorem conv_below (w : World) (e : TypeId) (s : ByteArray) : Below w.heap.size w (Lib.bytesWorld w e s) :=
  ⟨rfl, rfl, rfl, by rw [Lib.bytesWorld_size]; omega, fun i hi => Lib.bytesWorld_at_old w e s i hi⟩
/-- 'string(b)'. -/
theorem Br.text {P : Program} {w : World} {e src dst : TypeId} {g : Nat} {xs : List Int} (h : Br w e g xs) (hs : P.underlying src = some (.slice e)) (he : P.underlying e = some (.int .u8)) (hd : P.underlying dst = some .string) (cap : Nat) :
    (convert src dst (.slice (some ⟨g, 0, none⟩) xs.length cap)).run P w = .ok (.string (strOfNums xs)) w :=
  run_convert_bytes_arg w src e hs he g 0 xs.length cap xs rfl (fun i hi => by rw [Nat.zero_add]; exact h.cell i hi) dst hd
theorem Br.reads {w : World} {e : TypeId} {g : Nat} {xs : List Int} (h : Br w e g xs) (hl : xs.length ≤ 9223372036854775807) : ReadsOf (Value.int .u8) 0 w (some ⟨g, 0, none⟩) xs.length xs :=
  ⟨rfl, hl, fun _ => ⟨_, rfl, fun j hj => by rw [add_plain]; exact h.cell j hj⟩⟩
theorem Br.C {w : World} {e : TypeId} {g : Nat} {xs : List Int} (h : Br w e g xs) (hl : xs.length ≤ 9223372036854775807) : Kd.C (Kd.int .u8) w (some ⟨g, 0, none⟩) xs.length xs :=
  Kd.C_of_reads (d := (0 : Int)) (h1 := fun _ => rfl) (h.reads hl)
theorem Br.drewN {w : World} {e : TypeId} {g : Nat} {xs : List Int} (h : Br w e g xs) (k : Nat) : Br (w.drewN k) e g xs := h.same rfl
/-- A part of a row of bytes, cut and told as a text: in every world that has the row. -/
theorem Br.mid {P : Program} {e t dst : TypeId} {i : TypeInfo} (ht : P.underlying t = some (.slice e)) (he : P.underlying e = some (.int .u8)) (hd : P.underlying dst = some .string) (hi : P.info? e = some i) (hsz : i.size = 1) (g c : Nat) (xs : List Int) (a b : Nat) (h1 : a ≤ b) (hm : b ≤ xs.length) (hc : xs.length ≤ c) (hl : xs.length ≤ 9223372036854775807) :
    ∃ A' : Option Addr, (∀ W : World, (Instr.slice t (.slice (some ⟨g, 0, none⟩) xs.length c) (some (.int .i64 a)) (some (.int .i64 b)) none).run P W = .ok (.slice A' (b - a) (c - a)) W) ∧
      ∀ w : World, Br w e g xs → (convert t dst (.slice A' (b - a) (c - a))).run P w = .ok (.string (strOfNums ((xs.take b).drop a))) w := by
  obtain ⟨A', hcut, hA, _⟩ := print_mid_of (P := P) (Value.int .u8) 0 t e .i64 .i64 ht hi hsz (some ⟨g, 0, none⟩) c xs (a : Int) (b : Int) (by omega) (by omega) (by omega) hc
  have hlen : ((xs.take (b : Int).toNat).drop (a : Int).toNat).length = b - a := by simp; omega
  refine ⟨A', fun W => ?_, fun w h => ?_⟩
  · rw [hcut W, hlen, Int.toNat_natCast]
  · have h2 := hA w (h.reads hl)
    have h3 := Kd.C_string (P := P) (A := A') (c := c - a) ht he hd (Kd.C_of_reads (h1 := fun _ => rfl) h2)
    rw [hlen] at h3
    simpa using h3
/-- A byte looked up in a constant table. -/
theorem wpList_index_tab {P : Program} {ops : Array Oper} {rest : List Oper} {o : Oper} {a : Act} {w : World} {Q : Exit → Act → World → Prop} (hgd : o.guard = none) (t : TypeId) (x i : Operand) (ho : o.op = .index t x i)
    (S : ByteArray) (n : Int) (k : IntKind) (hx : a.eval x = .string S) (hi : a.eval i = .int k n) (ht : P.underlying t = some .string) (h0 : 0 ≤ n) (h1 : n < S.size) (v : Int) (hv : bt S n = v)
    (h : wpList P ops Q rest (a.put o.dst (.int .u8 v)) w) : wpList P ops Q (o :: rest) a w :=
  wpList_plain hgd fun _ hK => by
    unfold Oper.wp execOp
    have hn : n.toNat < S.size := by omega
    have hb : ((S[n.toNat]'hn).toNat : Int) = v := by rw [← hv]; exact bt_at S n hn
    have hr : (Instr.index t (.string S) (.int k n)).run P w = .ok (.int .u8 v) w := by
      rw [← hb]
      simp [Instr.index, asIntOf, run_underlying ht, h0, hn]
    simp only [ho, hx, hi, Sem.run_bind, hr, Result.andThen_ok, Sem.run_pure]
    exact hK _ _ h
/-- Nothing but the first n cells of block g has changed. -/
structure Only (g n : Nat) (w w' : World) : Prop where
  os : w'.os = w.os
  tape : w'.tape = w.tape
  output : w'.output = w.output
  size : w'.heap.size = w.heap.size
  others : ∀ i, i ≠ g → w'.heap[i]? = w.heap[i]?
  own : ∀ cur e fr, w.heap[g]? = some (.cells cur e fr) → ∃ cur', w'.heap[g]? = some (.cells cur' e fr) ∧ cur'.size = cur.size ∧ ∀ j, n ≤ j → cur'[j]? = cur[j]?
theorem Only.refl (g n : Nat) (w : World) : Only g n w w := ⟨rfl, rfl, rfl, rfl, fun _ _ => rfl, fun cur e fr h => ⟨cur, h, rfl, fun _ _ => rfl⟩⟩
theorem Only.drewN {g n : Nat} {w w' : World} (h : Only g n w w') (k : Nat) : Only g n w (w'.drewN k) := ⟨h.os, h.tape, h.output, h.size, h.others, h.own⟩
theorem Only.drew {g n : Nat} {w w' : World} (h : Only g n w w') : Only g n w w'.drew := ⟨h.os, h.tape, h.output, h.size, h.others, h.own⟩
theorem Only.set {g n : Nat} {w w' : World} (h : Only g n w w') (j : Nat) (hj : j < n) (v : Value) : Only g n w (w'.setCell ⟨g, j, none⟩ v) := by
  refine ⟨h.os, h.tape, h.output, by rw [World.size_setCell]; exact h.size, fun i hi => ?_, fun cur e fr hb => ?_⟩
  · simp only [World.setCell, Array.getElem?_modify, if_neg (Ne.symm hi)]
    exact h.others i hi
  · obtain ⟨cur', hb', hs, hc⟩ := h.own cur e fr hb
    refine ⟨cur'.setIfInBounds j v, ?_, by simpa using hs, fun i hi => ?_⟩
    · simp only [World.setCell, Array.getElem?_modify, if_true, hb', Option.map_some, Option.isSome_none, Bool.false_eq_true, if_false]
    · rw [Array.getElem?_setIfInBounds, if_neg (by omega)]
      exact hc i hi
theorem Only.below {g n B : Nat} {w0 w w' : World} (h : Only g n w w') (hb : Below B w0 w) (hg : B ≤ g) : Below B w0 w' :=
  ⟨h.os.trans hb.os, h.tape.trans hb.tape, h.output.trans hb.output, by have := h.size; have := hb.size; omega, fun i hi => (h.others i (by omega)).trans (hb.block i hi)⟩
/-- A table of 256 bytes. -/
def TabIs (S : ByteArray) (f : Int → Int) : Prop := S.size = 256 ∧ ∀ n : Fin 256, bt S ((n.val : Nat) : Int) = f ((n.val : Nat) : Int)
instance (S : ByteArray) (f : Int → Int) : Decidable (TabIs S f) := inferInstanceAs (Decidable (_ ∧ _))
theorem wpList_index_fn {P : Program} {ops : Array Oper} {rest : List Oper} {o : Oper} {a : Act} {w : World} {Q : Exit → Act → World → Prop} (hgd : o.guard = none) (t : TypeId) (x i : Operand) (ho : o.op = .index t x i)
    (S : ByteArray) (n : Int) (k : IntKind) (hx : a.eval x = .string S) (hi : a.eval i = .int k n) (ht : P.underlying t = some .string) (h0 : 0 ≤ n) (h1 : n ≤ 255) (f : Int → Int) (hv : TabIs S f)
    (h : wpList P ops Q rest (a.put o.dst (.int .u8 (f n))) w) : wpList P ops Q (o :: rest) a w := by
  obtain ⟨m, rfl⟩ := Int.eq_ofNat_of_zero_le h0
  exact wpList_index_tab hgd t x i ho S _ k hx hi ht h0 (by rw [hv.1]; omega) _ (hv.2 ⟨m, by omega⟩) h
end Go.Proofs.Ytkbmababljcabaa.Gv
