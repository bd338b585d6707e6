/- Texts of this claim, one behind the other (merged by wip/prune.py of this repo, without what the proof does not use): GvBase, GvRow, GvNhk, GSameKey, GSpecNorm, GType, GStat, GLow, GNormalKey, QA42, LHelp. -/
import Derived.Test.YtgmjaggkiifdjaaDoorZW1
import Derived.Test.YtgmjaggkiifdjaaDoorZW2
import Derived.Test.YtgmjaggkiifdjaaDoorZW3
import Derived.Test.YtgmjaggkiifdjaaDoorZW4
import Derived.Below
import Derived.BigQuiet
import Derived.Deep.LoopGhost
import Derived.Deep.QuietTactic
import Derived.KernelRfl
import Derived.Laws.BytesArg
import Derived.Laws.RangeAny
import Derived.Laws.RangeString
import Derived.Laws.Slices
import Derived.Lib.ConvBytes
import Derived.Lib.Hide
import Derived.Lib.TrimU
import Derived.MapKept
import Derived.Outline
import Derived.OwnWalk
import Derived.RowKit3
import Derived.Tactics
import Derived.Test.YtgmjaggkiifdjaaDoorProg
import Derived.WalkKit
import Derived.WalkLawsBesides
import Derived.WalkSpells
import Derived.WideLaws
set_option linter.unusedVariables false
set_option linter.unusedSimpArgs false
namespace Go.Proofs.YtgmjaggkiifdjaaDoor.Gv
open Go.RowKit Go.Proofs.YtgmjaggkiifdjaaDoorW.PrintWords Go.Proofs.YtgmjaggkiifdjaaDoorW.PrintLast Go.Proofs.YtgmjaggkiifdjaaDoorW.PrintMore Go.Proofs.YtgmjaggkiifdjaaDoor.Base
theorem width_pos (s : ByteArray) (pos : Nat) (h : pos < s.size) : 1 ≤ (Utf8.decode s pos).2 := by
  by_cases ha : (s[pos]'h).toNat < 128
  · rw [decode_ascii s pos h ha]; exact Nat.le_refl _
  · exact (decode_high s pos h (by omega)).2
theorem get_bt (s : ByteArray) (i : Nat) (h : i < s.size) : ((s.get! i).toNat : Int) = bt s (i : Int) := by
  have e : s.get! i = s[i]'h := by simp [ByteArray.get!, getElem!_pos, h]; rfl
  rw [e]
  exact bt_at s (i : Int) h
theorem conts (s : ByteArray) (pos j : Nat) (h1 : 1 ≤ j) (h2 : j < (Utf8.decode s pos).2) : pos + j < s.size ∧ 128 ≤ bt s ((pos + j : Nat) : Int) := by
  have key : ∀ k, (decide (pos + k < s.size) && (s.get! (pos + k)).toNat / 64 == 2) = true → pos + k < s.size ∧ 128 ≤ bt s ((pos + k : Nat) : Int) := by
    intro k hk
    simp only [Bool.and_eq_true, decide_eq_true_eq, beq_iff_eq] at hk
    refine ⟨hk.1, ?_⟩
    rw [← get_bt s (pos + k) hk.1]
    omega
  unfold Utf8.decode at h2
  simp only at h2
  split at h2
  · simp only at h2; omega
  · split at h2
    · rename_i hc
      simp only [Bool.and_eq_true] at hc
      split at h2
      · simp only at h2
        obtain rfl : j = 1 := by omega
        exact key 1 (by simpa using hc.2)
      · simp only at h2; omega
    · split at h2
      · rename_i hc
        simp only [Bool.and_eq_true] at hc
        split at h2
        · simp only at h2
          rcases (by omega : j = 1 ∨ j = 2) with rfl | rfl
          · exact key 1 (by simpa using hc.1.2)
          · exact key 2 (by simpa using hc.2)
        · simp only at h2; omega
      · split at h2
        · rename_i hc
          simp only [Bool.and_eq_true] at hc
          split at h2
          · simp only at h2
            rcases (by omega : j = 1 ∨ j = 2 ∨ j = 3) with rfl | rfl | rfl
            · exact key 1 (by simpa using hc.1.1.2)
            · exact key 2 (by simpa using hc.1.2)
            · exact key 3 (by simpa using hc.2)
          · simp only at h2; omega
        · simp only at h2; omega
theorem rune_is (s : ByteArray) (pos : Nat) (h : pos < s.size) (c : Int) (hc : c < 128) : ((Utf8.decode s pos).1 : Int) = c ↔ bt s (pos : Int) = c := by
  have hb : bt s (pos : Int) = ((s[pos]'h).toNat : Int) := (bt_at s (pos : Int) h).symm
  by_cases ha : (s[pos]'h).toNat < 128
  · rw [decode_ascii s pos h ha, hb]
  · have := (decode_high s pos h (by omega)).1
    rw [hb]
    omega
def Br (w : World) (e : TypeId) (g : Nat) (xs : List Int) : Prop :=
  ∃ cur fr, w.heap[g]? = some (.cells cur e fr) ∧ (∀ j, j < xs.length → cur[j]? = some (.int .u8 (xs.getD j 0))) ∧ ∀ j, j < xs.length → ¬ (fr.1 ≤ j ∧ j < fr.2)
theorem Br.cell {w : World} {e : TypeId} {g : Nat} {xs : List Int} (h : Br w e g xs) (j : Nat) (hj : j < xs.length) : w.cell? ⟨g, j, none⟩ = some (.int .u8 (xs.getD j 0)) := by
  obtain ⟨cur, fr, hb, hc, _⟩ := h
  simp only [World.cell?, hb]
  exact hc j hj
theorem Br.free {w : World} {e : TypeId} {g : Nat} {xs : List Int} (h : Br w e g xs) (j : Nat) (hj : j < xs.length) : w.frozen? ⟨g, j, none⟩ = false := by
  obtain ⟨cur, fr, hb, _, hf⟩ := h
  have := hf j hj
  obtain ⟨lo, hi⟩ := fr
  simp only [World.frozen?, hb]
  simp only [Bool.and_eq_false_iff, decide_eq_false_iff_not]
  simp only at this
  omega
theorem Br.lt {w : World} {e : TypeId} {g : Nat} {xs : List Int} (h : Br w e g xs) : g < w.heap.size := by
  obtain ⟨cur, fr, hb, _⟩ := h
  exact (Array.getElem?_eq_some_iff.1 hb).1
theorem Br.set {w : World} {e : TypeId} {g : Nat} {xs : List Int} (h : Br w e g xs) (j : Nat) (v : Int) : Br (w.setCell ⟨g, j, none⟩ (.int .u8 v)) e g (xs.set j v) := by
  obtain ⟨cur, fr, hb, hc, hf⟩ := h
  refine ⟨cur.setIfInBounds j (.int .u8 v), fr, ?_, fun i hi => ?_, fun i hi => hf i (by simpa using hi)⟩
  · simp only [World.setCell, Array.getElem?_modify, if_true, hb, Option.map_some, Option.isSome_none, Bool.false_eq_true, if_false]
  · have hi' : i < xs.length := by simpa using hi
    have h1 := hc i hi'
    have hlt : i < cur.size := (Array.getElem?_eq_some_iff.1 h1).1
    rw [Array.getElem?_setIfInBounds, List.getD_eq_getElem?_getD, List.getElem?_set]
    by_cases e1 : j = i
    · subst e1; simp [hlt, hi']
    · rw [if_neg e1, if_neg e1, h1, List.getD_eq_getElem?_getD]
theorem Br.same {w w' : World} {e : TypeId} {g : Nat} {xs : List Int} (h : Br w e g xs) (hb : w'.heap[g]? = w.heap[g]?) : Br w' e g xs := by
  obtain ⟨cur, fr, h1, h2⟩ := h
  exact ⟨cur, fr, hb.trans h1, h2⟩
theorem Br.below {w w' : World} {e : TypeId} {g : Nat} {xs : List Int} (h : Br w e g xs) (hb : Below w.heap.size w w') : Br w' e g xs := h.same (hb.block g h.lt)
theorem Br.conv (w : World) (e : TypeId) (s : ByteArray) : Br (Lib.bytesWorld w e s) e w.heap.size (ns s) := by
  refine ⟨_, _, Lib.bytesWorld_at_new w e s, fun j hj => ?_, fun j hj => ?_⟩
  · rw [ns_length] at hj
    have h := Lib.bytesWorld_cell w e s j hj
    simp only [World.cell?, Lib.bytesWorld_at_new] at h
    have h2 : (ns s).getD j 0 = ((s.data.toList.getD j 0).toNat : Int) := by
      unfold ns
      rw [List.getD_eq_getElem?_getD, List.getD_eq_getElem?_getD, List.getElem?_map]
      have : j < s.data.toList.length := by rw [← Lib.size_eq]; exact hj
      rw [List.getElem?_eq_getElem this]; rfl
    rw [h2]
    simpa using h
  · rw [ns_length] at hj
    have : s.size ≤ (Lib.bytesCells w e s).size := by simp [Lib.bytesCells]
    simp only
    omega
theorem conv_below (w : World) (e : TypeId) (s : ByteArray) : Below w.heap.size w (Lib.bytesWorld w e s) :=
  ⟨rfl, rfl, rfl, by rw [Lib.bytesWorld_size]; omega, fun i hi => Lib.bytesWorld_at_old w e s i hi⟩
theorem Br.text {P : Program} {w : World} {e src dst : TypeId} {g : Nat} {xs : List Int} (h : Br w e g xs) (hs : P.underlying src = some (.slice e)) (he : P.underlying e = some (.int .u8)) (hd : P.underlying dst = some .string) (cap : Nat) :
    (convert src dst (.slice (some ⟨g, 0, none⟩) xs.length cap)).run P w = .ok (.string (strOfNums xs)) w :=
  run_convert_bytes_arg w src e hs he g 0 xs.length cap xs rfl (fun i hi => by rw [Nat.zero_add]; exact h.cell i hi) dst hd
theorem Br.reads {w : World} {e : TypeId} {g : Nat} {xs : List Int} (h : Br w e g xs) (hl : xs.length ≤ 9223372036854775807) : ReadsOf (Value.int .u8) 0 w (some ⟨g, 0, none⟩) xs.length xs :=
  ⟨rfl, hl, fun _ => ⟨_, rfl, fun j hj => by rw [add_plain]; exact h.cell j hj⟩⟩
theorem Br.C {w : World} {e : TypeId} {g : Nat} {xs : List Int} (h : Br w e g xs) (hl : xs.length ≤ 9223372036854775807) : Kd.C (Kd.int .u8) w (some ⟨g, 0, none⟩) xs.length xs :=
  Kd.C_of_reads (d := (0 : Int)) (h1 := fun _ => rfl) (h.reads hl)
theorem Br.drewN {w : World} {e : TypeId} {g : Nat} {xs : List Int} (h : Br w e g xs) (k : Nat) : Br (w.drewN k) e g xs := h.same rfl
theorem wpList_index_tab {P : Program} {ops : Array Oper} {rest : List Oper} {o : Oper} {a : Act} {w : World} {Q : Exit → Act → World → Prop} (hgd : o.guard = none) (t : TypeId) (x i : Operand) (ho : o.op = .index t x i)
    (S : ByteArray) (n : Int) (k : IntKind) (hx : a.eval x = .string S) (hi : a.eval i = .int k n) (ht : P.underlying t = some .string) (h0 : 0 ≤ n) (h1 : n < S.size) (v : Int) (hv : bt S n = v)
    (h : wpList P ops Q rest (a.put o.dst (.int .u8 v)) w) : wpList P ops Q (o :: rest) a w :=
  wpList_plain hgd fun _ hK => by
    unfold Oper.wp execOp
    have hn : n.toNat < S.size := by omega
    have hb : ((S[n.toNat]'hn).toNat : Int) = v := by rw [← hv]; exact bt_at S n hn
    have hr : (Instr.index t (.string S) (.int k n)).run P w = .ok (.int .u8 v) w := by
      rw [← hb]
      simp [Instr.index, asIntOf, run_underlying ht, h0, hn]
    simp only [ho, hx, hi, Sem.run_bind, hr, Result.andThen_ok, Sem.run_pure]
    exact hK _ _ h
structure Only (g n : Nat) (w w' : World) : Prop where
  os : w'.os = w.os
  tape : w'.tape = w.tape
  output : w'.output = w.output
  size : w'.heap.size = w.heap.size
  others : ∀ i, i ≠ g → w'.heap[i]? = w.heap[i]?
  own : ∀ cur e fr, w.heap[g]? = some (.cells cur e fr) → ∃ cur', w'.heap[g]? = some (.cells cur' e fr) ∧ cur'.size = cur.size ∧ ∀ j, n ≤ j → cur'[j]? = cur[j]?
theorem Only.refl (g n : Nat) (w : World) : Only g n w w := ⟨rfl, rfl, rfl, rfl, fun _ _ => rfl, fun cur e fr h => ⟨cur, h, rfl, fun _ _ => rfl⟩⟩
theorem Only.set {g n : Nat} {w w' : World} (h : Only g n w w') (j : Nat) (hj : j < n) (v : Value) : Only g n w (w'.setCell ⟨g, j, none⟩ v) := by
  refine ⟨h.os, h.tape, h.output, by rw [World.size_setCell]; exact h.size, fun i hi => ?_, fun cur e fr hb => ?_⟩
  · simp only [World.setCell, Array.getElem?_modify, if_neg (Ne.symm hi)]
    exact h.others i hi
  · obtain ⟨cur', hb', hs, hc⟩ := h.own cur e fr hb
    refine ⟨cur'.setIfInBounds j v, ?_, by simpa using hs, fun i hi => ?_⟩
    · simp only [World.setCell, Array.getElem?_modify, if_true, hb', Option.map_some, Option.isSome_none, Bool.false_eq_true, if_false]
    · rw [Array.getElem?_setIfInBounds, if_neg (by omega)]
      exact hc i hi
theorem Only.below {g n B : Nat} {w0 w w' : World} (h : Only g n w w') (hb : Below B w0 w) (hg : B ≤ g) : Below B w0 w' :=
  ⟨h.os.trans hb.os, h.tape.trans hb.tape, h.output.trans hb.output, by have := h.size; have := hb.size; omega, fun i hi => (h.others i (by omega)).trans (hb.block i hi)⟩
def TabIs (S : ByteArray) (f : Int → Int) : Prop := S.size = 256 ∧ ∀ n : Fin 256, bt S ((n.val : Nat) : Int) = f ((n.val : Nat) : Int)
instance (S : ByteArray) (f : Int → Int) : Decidable (TabIs S f) := inferInstanceAs (Decidable (_ ∧ _))
theorem wpList_index_fn {P : Program} {ops : Array Oper} {rest : List Oper} {o : Oper} {a : Act} {w : World} {Q : Exit → Act → World → Prop} (hgd : o.guard = none) (t : TypeId) (x i : Operand) (ho : o.op = .index t x i)
    (S : ByteArray) (n : Int) (k : IntKind) (hx : a.eval x = .string S) (hi : a.eval i = .int k n) (ht : P.underlying t = some .string) (h0 : 0 ≤ n) (h1 : n ≤ 255) (f : Int → Int) (hv : TabIs S f)
    (h : wpList P ops Q rest (a.put o.dst (.int .u8 (f n))) w) : wpList P ops Q (o :: rest) a w := by
  obtain ⟨m, rfl⟩ := Int.eq_ofNat_of_zero_le h0
  exact wpList_index_tab hgd t x i ho S _ k hx hi ht h0 (by rw [hv.1]; omega) _ (hv.2 ⟨m, by omega⟩) h
theorem getD_mid (out rest : List Int) (x : Int) : (out ++ x :: rest).getD out.length 0 = x := by
  rw [List.getD_eq_getElem?_getD, List.getElem?_append_right (Nat.le_refl _), Nat.sub_self]; rfl
theorem set_mid (out rest : List Int) (x v : Int) : (out ++ x :: rest).set out.length v = (out ++ [v]) ++ rest := by
  rw [List.set_append_right _ _ (Nat.le_refl _), Nat.sub_self, List.set_cons_zero, List.append_assoc]; rfl
set_option maxHeartbeats 4000000 in
set_option maxRecDepth 100000 in
theorem nhk_calls (w : World) (g n cap : Nat) (xs : List Int) (hn : xs.length = n) (hr : ∀ x ∈ xs, 0 ≤ x ∧ x ≤ 255) (hl : n ≤ 4611686018427387904) (hb : Br w 5 g xs) :
    Calls Tryd.prog 68 #[.slice (some ⟨g, 0, none⟩) n cap, .bool false] w fun e w' => e = .returned (.tuple #[]) ∧ Br w' 5 g (nk xs) ∧ Only g n w w' := by
  cases xs with
  | nil =>
    obtain rfl : n = 0 := by simpa using hn.symm
    clear hr hl hn
    have HB := Lib.hid hb
    clear hb
    go_enter Tryd.func68, Tryd.ntmps68
    go_wp2
    exact bodyPost_ret (results_none rfl _ _ _) rfl ⟨rfl, HB.out, Only.refl _ _ _⟩
  | cons a l =>
    have hcell : w.cell? ⟨g, 0, none⟩ = some (.int .u8 a) := hb.cell 0 (by simp)
    have hfree := hb.free 0 (by simp)
    have ha := hr a (by simp)
    have hset : Br (w.setCell ⟨g, 0, none⟩ (.int .u8 (up a))) 5 g ([up a] ++ l) := by
      have h := hb.set 0 (up a)
      simpa using h
    have honly : Only g n w (w.setCell ⟨g, 0, none⟩ (.int .u8 (up a))) := (Only.refl g n w).set 0 (by rw [← hn]; simp) _
    have hlen : Hid ([up a].length + l.length = n) := Lib.hid (by rw [← hn]; simp; omega)
    have hrl : Hid (∀ x ∈ l, 0 ≤ x ∧ x ≤ 255) := Lib.hid (fun x hx => hr x (List.mem_cons_of_mem _ hx))
    have hnk : Hid (nk (a :: l) = [up a] ++ nkTail l) := Lib.hid rfl
    have hpos : 1 ≤ n := by rw [← hn]; simp
    obtain ⟨res, hres⟩ : ∃ res, nk (a :: l) = res := ⟨_, rfl⟩
    have hnk' : Hid (res = [up a] ++ nkTail l) := Lib.hid (by rw [← hres]; exact hnk.out)
    rw [hres]
    have HSET := Lib.hid hset
    have HONLY := Lib.hid honly
    clear hset honly hb hr hnk hres hn
    have hne : ((n : Int) == 0) = false := beq_eq_false_iff_ne.2 (by omega)
    go_enter Tryd.func68, Tryd.ntmps68
    go_wp2_with (refine wpList_index_fn rfl 9 _ _ rfl _ _ .u8 rfl rfl Tryd.underlying9 ha.1 ha.2 up ?tb ?_; case tb => decide +kernel)
    go_loopw [5] (fun i wr => ∃ (k : Nat) (out rest : List Int), i = .int .i64 k ∧ (k = out.length ∨ (k = out.length + 1 ∧ rest = [])) ∧ Hid (out.length + rest.length = n) ∧ Hid (∀ x ∈ rest, 0 ≤ x ∧ x ≤ 255) ∧ Hid (res = out ++ nkTail rest) ∧ Hid (Br wr 5 g (out ++ rest)) ∧ Hid (Only g n w wr)) (fun i _ => n + 1 - (intOf i).toNat)
    case atStart => exact ⟨1, [up a], l, rfl, .inl rfl, hlen, hrl, hnk', HSET, HONLY⟩
    case round =>
      obtain ⟨k, out, rest, rfl, hk, Hlen, Hr, Hnk, HBr, HO⟩ := hrel
      cases rest with
      | nil =>
        have hge : n ≤ k := by have := Hlen.out; simp only [List.length_nil] at this; omega
        have hfin : Hid (res = out ++ []) := Lib.hid Hnk.out
        clear hk Hr Hnk Hlen
        go_wp2
        go_end0
        exact ⟨rfl, by rw [hfin.out]; exact HBr.out, HO.out⟩
      | cons x rest =>
        have hko : k = out.length := by
          rcases hk with hk | ⟨_, hk⟩
          · exact hk
          · cases hk
        have hlt : k < n := by have := Hlen.out; simp only [List.length_cons] at this; omega
        have hin : k < (out ++ x :: rest).length := by rw [List.length_append, List.length_cons]; omega
        have hcell := HBr.out.cell k hin
        have hfree := HBr.out.free k hin
        rw [hko, getD_mid, ← hko] at hcell
        have hx := Hr.out x (by simp)
        have Hko := Lib.hid hko
        clear hk hko hin
        by_cases h45 : x = 45
        · subst h45
          cases rest with
          | nil =>
            have hk1 : n ≤ k + 1 := by have h1 := Hlen.out; have h2 := Hko.out; simp only [List.length_cons, List.length_nil] at h1; omega
            have hend : Hid (res = (out ++ [45]) ++ nkTail []) := Lib.hid (by rw [Hnk.out, nkTail_hyp1]; simp only [nkTail, List.append_nil])
            have hl1 : Hid ((out ++ [(45 : Int)]).length + ([] : List Int).length = n) := Lib.hid (by have := Hlen.out; simp only [List.length_append, List.length_cons, List.length_nil] at this ⊢; omega)
            clear hfree hx
            go_wp2
            go_roundw
            case rel => exact ⟨k + 1 + 1, out ++ [45], [], by go_num, .inr ⟨by have := Hko.out; simp only [List.length_append, List.length_cons, List.length_nil]; omega, rfl⟩, hl1, Lib.hid (by simp), hend, Lib.hid (by rw [List.append_nil]; exact HBr.out), HO⟩
            case measure => simp [intOf]; omega
          | cons y rest =>
            have hk1 : k + 1 < n := by have h1 := Hlen.out; have h2 := Hko.out; simp only [List.length_cons] at h1; omega
            have hy := Hr.out y (by simp)
            have e1 : out ++ 45 :: y :: rest = (out ++ [45]) ++ y :: rest := by simp
            have hol : (out ++ [(45 : Int)]).length = k + 1 := by rw [List.length_append, ← Hko.out]; rfl
            have HB1 : Br wr 5 g ((out ++ [45]) ++ y :: rest) := by rw [← e1]; exact HBr.out
            have hin1 : k + 1 < ((out ++ [(45 : Int)]) ++ y :: rest).length := by rw [List.length_append, List.length_cons, hol]; omega
            have hcell1 := HB1.cell (k + 1) hin1
            have hfree1 := HB1.free (k + 1) hin1
            rw [← hol, getD_mid, hol] at hcell1
            have hset : Hid (Br (wr.setCell ⟨g, k + 1, none⟩ (.int .u8 (up y))) 5 g ((out ++ [45] ++ [up y]) ++ rest)) := Lib.hid (by
              have h := HB1.set (k + 1) (up y)
              rw [← hol, set_mid, hol] at h
              exact h)
            have hO1 : Hid (Only g n w (wr.setCell ⟨g, k + 1, none⟩ (.int .u8 (up y)))) := Lib.hid (HO.out.set (k + 1) hk1 _)
            have hend : Hid (res = (out ++ [45] ++ [up y]) ++ nkTail rest) := Lib.hid (by rw [Hnk.out, nkTail_hyp]; simp)
            have hl1 : Hid ((out ++ [(45 : Int)] ++ [up y]).length + rest.length = n) := Lib.hid (by have := Hlen.out; simp only [List.length_append, List.length_cons, List.length_nil] at this ⊢; omega)
            have hr1 : Hid (∀ z ∈ rest, 0 ≤ z ∧ z ≤ 255) := Lib.hid (fun z hz => Hr.out z (by simp [hz]))
            have hko1 : Hid (k + 1 + 1 = (out ++ [(45 : Int)] ++ [up y]).length) := Lib.hid (by have := Hko.out; simp only [List.length_append, List.length_cons, List.length_nil]; omega)
            clear e1 hol HB1 hin1 hfree hx
            go_wp2_with (refine wpList_index_fn rfl 9 _ _ rfl _ _ .u8 rfl rfl Tryd.underlying9 hy.1 hy.2 up ?tb ?_; case tb => decide +kernel)
            go_roundw
            case rel => exact ⟨k + 1 + 1, out ++ [45] ++ [up y], rest, by go_num, .inl hko1.out, hl1, hr1, hend, hset, hO1⟩
            case measure => simp [intOf]; omega
        · have h45b : (x == 45) = false := beq_eq_false_iff_ne.2 h45
          have hset : Hid (Br (wr.setCell ⟨g, k, none⟩ (.int .u8 (lo x))) 5 g ((out ++ [lo x]) ++ rest)) := Lib.hid (by
            have h := HBr.out.set k (lo x)
            rw [Hko.out, set_mid, ← Hko.out] at h
            exact h)
          have hO1 : Hid (Only g n w (wr.setCell ⟨g, k, none⟩ (.int .u8 (lo x)))) := Lib.hid (HO.out.set k hlt _)
          have hend : Hid (res = (out ++ [lo x]) ++ nkTail rest) := Lib.hid (by rw [Hnk.out, nkTail_other x rest h45]; simp)
          have hl1 : Hid ((out ++ [lo x]).length + rest.length = n) := Lib.hid (by have := Hlen.out; simp only [List.length_append, List.length_cons, List.length_nil] at this ⊢; omega)
          have hr1 : Hid (∀ z ∈ rest, 0 ≤ z ∧ z ≤ 255) := Lib.hid (fun z hz => Hr.out z (by simp [hz]))
          have hko1 : Hid (k + 1 = (out ++ [lo x]).length) := Lib.hid (by have := Hko.out; simp only [List.length_append, List.length_cons, List.length_nil]; omega)
          clear h45
          go_wp2_with (refine wpList_index_fn rfl 9 _ _ rfl _ _ .u8 rfl rfl Tryd.underlying9 hx.1 hx.2 lo ?tb ?_; case tb => decide +kernel)
          go_roundw
          case rel => exact ⟨k + 1, out ++ [lo x], rest, by go_num, .inl hko1.out, hl1, hr1, hend, hset, hO1⟩
          case measure => simp [intOf]; omega
end Go.Proofs.YtgmjaggkiifdjaaDoor.Gv
namespace Go.Proofs.YtgmjaggkiifdjaaDoor.Given
open Go.RowKit Go.Proofs.YtgmjaggkiifdjaaDoorW.PrintWords Go.Proofs.YtgmjaggkiifdjaaDoorW.PrintLast Go.Proofs.YtgmjaggkiifdjaaDoorW.PrintMore Go.Proofs.YtgmjaggkiifdjaaDoor.Base Go.Proofs.YtgmjaggkiifdjaaDoor.Gv Go.Proofs.YtgmjaggkiifdjaaDoor.QA
def impl_SameKey.f (k : Nat) (a0 a1 : ByteArray) : Option Bool := if a0.size ≤ 4611686018427387904 ∧ a1.size ≤ 4611686018427387904 then hertzutils_CaseInsensitiveCompare.f k (ns a0) (ns a1) else none
set_option maxHeartbeats 1000000 in
theorem sameKey_calls (k : Nat) (a0 a1 : ByteArray) (r : Bool) (w : World) (h0 : a0.size ≤ 4611686018427387904) (h1 : a1.size ≤ 4611686018427387904) (h : hertzutils_CaseInsensitiveCompare.f k (ns a0) (ns a1) = some r) :
    Calls Tryd.prog 39 #[.string a0, .string a1] w fun e w' => e = .returned (.bool r) ∧ Below w.heap.size w w' := by
  have hcv := Lib.run_convert_string_bytes (P := Tryd.prog) w 9 49 5 a0 Tryd.underlying9 Tryd.underlying49 Tryd.underlying5
  have hcap := grownCap_ge w a0.size 0 5
  obtain ⟨c, hc⟩ : ∃ c, grownCap w a0.size 0 5 = c := ⟨_, rfl⟩
  rw [hc] at hcv hcap
  have hbr := Br.conv w 5 a0
  have hbl := conv_below w 5 a0
  have hsz := Lib.bytesWorld_size w 5 a0
  obtain ⟨W, hW⟩ : ∃ W, Lib.bytesWorld w 5 a0 = W := ⟨_, rfl⟩
  rw [hW] at hcv hbr hbl hsz
  have hcv1 := Lib.run_convert_string_bytes (P := Tryd.prog) W 9 49 5 a1 Tryd.underlying9 Tryd.underlying49 Tryd.underlying5
  have hcap1 := grownCap_ge W a1.size 0 5
  obtain ⟨c1, hc1⟩ : ∃ c1, grownCap W a1.size 0 5 = c1 := ⟨_, rfl⟩
  rw [hc1] at hcv1 hcap1
  have hbr1 := Br.conv W 5 a1
  have hbl1 := conv_below W 5 a1
  have hbr0 := hbr.below hbl1
  obtain ⟨W1, hW1⟩ : ∃ W1, Lib.bytesWorld W 5 a1 = W1 := ⟨_, rfl⟩
  rw [hW1] at hcv1 hbr1 hbl1 hbr0
  have hbl2 : Below w.heap.size w W1 := below_then hbl hbl.size hbl1
  obtain ⟨g1, hg1⟩ : ∃ g1, W.heap.size = g1 := ⟨_, rfl⟩
  rw [hg1] at hcv1 hbr1
  have hin := hertzutils_CaseInsensitiveCompare.calls k (some ⟨w.heap.size, 0, none⟩) c (ns a0) (some ⟨g1, 0, none⟩) c1 (ns a1) r W1 (hbr0.C (by rw [ns_length]; omega)) (by rw [ns_length]; exact hcap) (hbr1.C (by rw [ns_length]; omega)) (by rw [ns_length]; exact hcap1) h
  rw [ns_length, ns_length] at hin
  have HIN := Lib.hid hin
  have HL := Lib.hid hbl2
  clear hc hW hc1 hW1 hg1 hbr hbr0 hbr1 hbl hbl1 hbl2 hin hcap hcap1 hsz h
  go_enter Tryd.func39, Tryd.ntmps39
  go_wp2_with fail
  refine (HIN.out).mono ?_
  rintro e w' ⟨rfl, ⟨nd, rfl⟩⟩
  go_wp2
  go_ret
  exact ⟨rfl, pw_below_drewN HL.out nd⟩
theorem impl_SameKey.calls (k : Nat) (a0 a1 : ByteArray) (r : Bool) (w : World) (h : impl_SameKey.f k a0 a1 = some r) :
    Calls Tryd.prog 39 #[.string a0, .string a1] w fun e w' => e = .returned (.bool r) ∧ Below w.heap.size w w' := by
  unfold impl_SameKey.f at h
  by_cases hbd : a0.size ≤ 4611686018427387904 ∧ a1.size ≤ 4611686018427387904
  · rw [if_pos hbd] at h
    exact sameKey_calls k a0 a1 r w hbd.1 hbd.2 h
  · rw [if_neg hbd] at h
    cases h
def spec_NormalKey.f (a0 : ByteArray) : Option ByteArray := if a0.size ≤ 4611686018427387904 then some (strOfNums (nk (ns a0))) else none
theorem fold_lo {x : Int} (h : 0 ≤ x ∧ x ≤ 255) : spec_fold.f x = some (lo x) := by
  unfold spec_fold.f lo
  by_cases h1 : 65 ≤ x
  · rw [if_pos h1]
    by_cases h2 : x ≤ 90
    · rw [if_pos h2, if_pos ⟨h1, h2⟩, Int.emod_eq_of_lt (by omega) (by omega)]
    · rw [if_neg h2, if_neg (by omega)]
  · rw [if_neg h1, if_neg (by omega)]
theorem big_up {x : Int} (h : 0 ≤ x ∧ x ≤ 255) : spec_big.f x = some (Gv.up x) := by
  unfold spec_big.f Gv.up
  by_cases h1 : 97 ≤ x
  · rw [if_pos h1]
    by_cases h2 : x ≤ 122
    · rw [if_pos h2, if_pos ⟨h1, h2⟩, Int.emod_eq_of_lt (by omega) (by omega)]
    · rw [if_neg h2, if_neg (by omega)]
  · rw [if_neg h1, if_neg (by omega)]
theorem lo_45 {x : Int} (h : x ≠ 45) : lo x ≠ 45 := by unfold lo; split <;> omega
theorem setm (out rest : List Int) (x v : Int) (k : Nat) (hk : k = out.length) : (out ++ x :: rest).set k v = out ++ v :: rest := by
  subst hk; rw [List.set_append_right _ _ (Nat.le_refl _), Nat.sub_self, List.set_cons_zero]
theorem getm (out rest : List Int) (x : Int) (k : Nat) (hk : k = out.length) : (out ++ x :: rest).getD k 0 = x := by
  subst hk; rw [List.getD_eq_getElem?_getD, List.getElem?_append_right (Nat.le_refl _), Nat.sub_self]; rfl
set_option maxHeartbeats 4000000 in
set_option maxRecDepth 100000 in
theorem specNormal_calls (a0 : ByteArray) (w : World) (hbd : a0.size ≤ 4611686018427387904) :
    Calls Tryd.prog 38 #[.string a0] w fun e w' => e = .returned (.string (strOfNums (nk (ns a0)))) ∧ Below w.heap.size w w' := by
  have hcv := Lib.run_convert_string_bytes (P := Tryd.prog) w 9 49 5 a0 Tryd.underlying9 Tryd.underlying49 Tryd.underlying5
  have hbr := Br.conv w 5 a0
  have hbl := conv_below w 5 a0
  obtain ⟨c, hc⟩ : ∃ c, grownCap w a0.size 0 5 = c := ⟨_, rfl⟩
  have hlen : Hid ((ns a0).length = a0.size) := Lib.hid (ns_length a0)
  have hrg : Hid (∀ x ∈ ns a0, 0 ≤ x ∧ x ≤ 255) := Lib.hid (fun x hx => ns_range a0 x hx)
  obtain ⟨n, hn⟩ : ∃ n, a0.size = n := ⟨_, rfl⟩
  obtain ⟨res, hres⟩ : ∃ res, nk (ns a0) = res := ⟨_, rfl⟩
  have HRES := Lib.hid hres
  rw [hres]
  obtain ⟨L, hL⟩ : ∃ L, ns a0 = L := ⟨_, rfl⟩
  rw [hL] at hbr hlen HRES hrg
  rw [hc, hn] at hcv
  rw [hn] at hlen hbd
  obtain ⟨W, hW⟩ : ∃ W, Lib.bytesWorld w 5 a0 = W := ⟨_, rfl⟩
  rw [hW] at hcv hbr hbl
  obtain ⟨g, hg⟩ : ∃ g, w.heap.size = g := ⟨_, rfl⟩
  have hge : w.heap.size ≤ g := by omega
  have HG := Lib.hid hge
  rw [hg] at hcv hbr
  have HB := Lib.hid hbr
  have HL := Lib.hid hbl
  clear hW hg hbr hbl hc hn hL hres
  go_enter Tryd.func38, Tryd.ntmps38
  go_wp2
  go_loopw [4] (fun i wr => ∃ (k : Nat) (out rest : List Int), i = .int .i64 k ∧ k = out.length ∧ Hid (out.length + rest.length = n) ∧ Hid (∀ x ∈ rest, 0 ≤ x ∧ x ≤ 255) ∧ Hid (res = if k = 0 then nk rest else out ++ nkTail rest) ∧ Hid (Br wr 5 g (out ++ rest)) ∧ Hid (Below w.heap.size w wr)) (fun i _ => n - (intOf i).toNat)
  case atStart => exact ⟨0, [], L, rfl, rfl, Lib.hid (by rw [List.length_nil, Nat.zero_add]; exact hlen.out), hrg, Lib.hid (by rw [if_pos rfl]; exact HRES.out.symm), HB, HL⟩
  case round =>
    obtain ⟨k, out, rest, rfl, hk, Hlen, Hr, Hnk, HBr, HO⟩ := hrel
    cases rest with
    | nil =>
      have hge2 : ¬ (k : Int) < (n : Int) := by have := Hlen.out; simp only [List.length_nil] at this; omega
      have hfin : Hid (res = out ++ []) := Lib.hid (by
        have := Hnk.out
        by_cases h0 : k = 0
        · rw [if_pos h0] at this
          have ho : out = [] := List.eq_nil_of_length_eq_zero (by omega)
          rw [this, ho]; rfl
        · rw [if_neg h0] at this; exact this)
      have hlo : Hid ((out ++ ([] : List Int)).length = n) := Lib.hid (by rw [List.length_append]; exact Hlen.out)
      have htx := HBr.out.text (P := Tryd.prog) (src := 49) (dst := 9) Tryd.underlying49 Tryd.underlying5 Tryd.underlying9 c
      rw [hlo.out] at htx
      clear hk Hr Hnk Hlen
      go_wp2
      go_ret
      exact ⟨by rw [hfin.out, List.append_nil]; rfl, HO.out⟩
    | cons x rest =>
      have hlt : k < n := by have := Hlen.out; simp only [List.length_cons] at this; omega
      have hin : k < (out ++ x :: rest).length := by rw [List.length_append, List.length_cons]; omega
      have hcell := HBr.out.cell k hin
      have hfree := HBr.out.free k hin
      rw [getm _ _ _ _ hk] at hcell
      have hx := Hr.out x (by simp)
      have Hko := Lib.hid hk
      have hr1 : Hid (∀ z ∈ rest, 0 ≤ z ∧ z ≤ 255) := Lib.hid (fun z hz => Hr.out z (List.mem_cons_of_mem _ hz))
      have HX := Lib.hid hx
      clear hk hin Hr hx
      go_upto_region 6 with (
        go_at_call 65
        refine (spec_fold.calls x (lo x) _ (fold_lo HX.out)).mono ?_
        rintro e w2 ⟨rfl, m, rfl⟩)
      have HB1 := Lib.hid (show Br ((wr.drewN m).setCell ⟨g, k, none⟩ (.int .u8 (lo x))) 5 g (out ++ lo x :: rest) by
        have h := (HBr.out.drewN m).set k (lo x)
        rw [setm _ _ _ _ _ Hko.out] at h
        exact h)
      have HO1 := Lib.hid (show Below w.heap.size w ((wr.drewN m).setCell ⟨g, k, none⟩ (.int .u8 (lo x))) from (pw_below_drewN HO.out m).setCell (p := ⟨g, k, none⟩) HG.out _)
      clear hcell hfree HBr HO
      generalize (wr.drewN m).setCell ⟨g, k, none⟩ (.int .u8 (lo x)) = W1 at *
      have hin : k < (out ++ lo x :: rest).length := by rw [List.length_append, List.length_cons]; have := Hko.out; omega
      have hcell := HB1.out.cell k hin
      have hfree := HB1.out.free k hin
      rw [getm _ _ _ _ Hko.out] at hcell
      clear hin
      by_cases h0 : k = 0
      · subst h0
        have ho : out = [] := List.eq_nil_of_length_eq_zero Hko.out.symm
        subst ho
        go_wp2_with (
          go_at_call 69
          refine (spec_big.calls (lo x) (Gv.up (lo x)) _ (big_up (lo_range HX.out))).mono ?_
          rintro e w2 ⟨rfl, m2, rfl⟩)
        go_roundw
        case rel =>
          refine ⟨1, [Gv.up x], rest, rfl, rfl, Lib.hid (by have := Hlen.out; simp only [List.length_cons, List.length_nil] at this ⊢; omega), hr1, Lib.hid (by have := Hnk.out; (first | rw [if_pos rfl] at this | rw [if_pos trivial] at this); rw [if_neg (by decide)]; exact this), Lib.hid ?_, Lib.hid ?_⟩
          · have h := (HB1.out.drewN m2).set 0 (Gv.up (lo x))
            rw [up_lo] at h ⊢
            exact h
          · exact (pw_below_drewN HO1.out m2).setCell (p := ⟨g, 0, none⟩) HG.out _
        case measure => simp [intOf] <;> omega
      · have hkb : ((k : Int) == 0) = false := beq_eq_false_iff_ne.2 (by omega)
        have hnk1 : Hid (res = out ++ nkTail (x :: rest)) := Lib.hid (by have := Hnk.out; rw [if_neg h0] at this; exact this)
        clear h0 Hnk
        by_cases h45 : x = 45
        · subst h45
          have hl45 : lo 45 = 45 := rfl
          rw [hl45] at HB1 hcell
          clear hl45
          cases rest with
          | nil =>
            have hk1 : ¬ ((k : Int) + 1 < (n : Int)) := by have h1 := Hlen.out; have h2 := Hko.out; simp only [List.length_cons, List.length_nil] at h1; omega
            have hk2 : decide ((k : Int) + 1 < (n : Int)) = false := decide_eq_false hk1
            go_wp2
            go_roundw
            case rel => exact ⟨k + 1, out ++ [45], [], by go_num, by rw [List.length_append, ← Hko.out]; rfl, Lib.hid (by have := Hlen.out; simp only [List.length_append, List.length_cons, List.length_nil] at this ⊢; omega), Lib.hid (by simp), Lib.hid (by rw [if_neg (by omega), hnk1.out, nkTail_hyp1]; simp [nkTail]), Lib.hid (by rw [List.append_nil]; exact HB1.out), HO1⟩
            case measure => simp [intOf]; omega
          | cons y rest =>
            have hk1 : (k : Int) + 1 < (n : Int) := by have h1 := Hlen.out; have h2 := Hko.out; simp only [List.length_cons] at h1; omega
            have hk2 : decide ((k : Int) + 1 < (n : Int)) = true := decide_eq_true hk1
            have hol : k + 1 = (out ++ [(45 : Int)]).length := by rw [List.length_append, ← Hko.out]; rfl
            have hB2 : Br W1 5 g ((out ++ [45]) ++ y :: rest) := by rw [List.append_assoc]; exact HB1.out
            have hin1 : k + 1 < ((out ++ [(45 : Int)]) ++ y :: rest).length := by rw [List.length_append, List.length_cons, ← hol]; omega
            have hcell1 := hB2.cell (k + 1) hin1
            have hfree1 := hB2.free (k + 1) hin1
            rw [getm _ _ _ _ hol] at hcell1
            have HY := Lib.hid (hr1.out y (by simp))
            have HB2 := Lib.hid hB2
            have HOL := Lib.hid hol
            clear hB2 hin1 hol
            go_wp2_with (
              go_at_call 69
              refine (spec_big.calls y (Gv.up y) _ (big_up HY.out)).mono ?_
              rintro e w2 ⟨rfl, m2, rfl⟩)
            go_roundw
            case rel =>
              refine ⟨k + 1 + 1, out ++ [45] ++ [Gv.up y], rest, by go_num, by rw [List.length_append, ← HOL.out]; rfl, Lib.hid (by have := Hlen.out; simp only [List.length_append, List.length_cons, List.length_nil] at this ⊢; omega), Lib.hid (fun z hz => hr1.out z (List.mem_cons_of_mem _ hz)), Lib.hid (by rw [if_neg (by omega), hnk1.out, nkTail_hyp]; simp), Lib.hid ?_, Lib.hid ?_⟩
              · have h := (HB2.out.drewN m2).set (k + 1) (Gv.up y)
                rw [setm _ _ _ _ _ HOL.out] at h
                rw [List.append_assoc]
                exact h
              · exact (pw_below_drewN HO1.out m2).setCell (p := ⟨g, k + 1, none⟩) HG.out _
            case measure => simp [intOf]; omega
        · have hl := lo_45 h45
          have h45b : (lo x == 45) = false := beq_eq_false_iff_ne.2 hl
          obtain ⟨lx, hlx⟩ : ∃ y, lo x = y := ⟨_, rfl⟩
          have HLX := Lib.hid hlx
          rw [hlx] at hcell h45b
          clear hl hlx
          go_wp2
          go_roundw
          case rel => exact ⟨k + 1, out ++ [lo x], rest, by go_num, by rw [List.length_append, ← Hko.out]; rfl, Lib.hid (by have := Hlen.out; simp only [List.length_append, List.length_cons, List.length_nil] at this ⊢; omega), hr1, Lib.hid (by rw [if_neg (by omega), hnk1.out, nkTail_other x rest h45]; simp), Lib.hid (by rw [List.append_assoc]; exact HB1.out), HO1⟩
          case measure => simp [intOf]; omega
theorem spec_NormalKey.calls (a0 : ByteArray) (r : ByteArray) (w : World) (h : spec_NormalKey.f a0 = some r) :
    Calls Tryd.prog 38 #[.string a0] w fun e w' => e = .returned (.string r) ∧ Below w.heap.size w w' := by
  unfold spec_NormalKey.f at h
  by_cases hbd : a0.size ≤ 4611686018427387904
  · rw [if_pos hbd] at h
    obtain rfl : strOfNums (nk (ns a0)) = r := Option.some.inj h
    exact specNormal_calls a0 w hbd
  · rw [if_neg hbd] at h
    cases h
end Go.Proofs.YtgmjaggkiifdjaaDoor.Given
namespace Go.Proofs.YtgmjaggkiifdjaaDoor.Given
open Go.RowKit Go.Proofs.YtgmjaggkiifdjaaDoorW.PrintWords Go.Proofs.YtgmjaggkiifdjaaDoorW.PrintLast Go.Proofs.YtgmjaggkiifdjaaDoorW.PrintMore Go.Proofs.YtgmjaggkiifdjaaDoor.Base Go.Proofs.YtgmjaggkiifdjaaDoor.Gv
def typeLen (s : ByteArray) : Nat := ((ns s).takeWhile fun x => decide (x ≠ 32) && decide (x ≠ 59)).length
def hertzutils_FilterContentType.f (a0 : ByteArray) : Option ByteArray := some (a0.extract 0 (typeLen a0))
theorem takeWhile_len {α : Type} (p : α → Bool) (l : List α) (n : Nat) (hn : n ≤ l.length) (h : ∀ j x, j < n → l[j]? = some x → p x = true) (he : ∀ x, l[n]? = some x → p x = false) : (l.takeWhile p).length = n := by
  induction l generalizing n with
  | nil => simp at hn; simp [hn]
  | cons a l ih =>
    cases n with
    | zero => simp [he a rfl]
    | succ n =>
      have ha := h 0 a (by omega) rfl
      simp only [List.takeWhile_cons, ha, if_true, List.length_cons]
      rw [ih n (by simpa using hn) (fun j x hj hx => h (j + 1) x (by omega) (by simpa using hx)) (fun x hx => he x (by simpa using hx))]
theorem typeLen_is (s : ByteArray) (n : Nat) (hn : n ≤ s.size) (h : ∀ j : Nat, j < n → bt s (j : Int) ≠ 32 ∧ bt s (j : Int) ≠ 59) (he : n < s.size → bt s (n : Int) = 32 ∨ bt s (n : Int) = 59) : typeLen s = n := by
  refine takeWhile_len _ _ n (by rw [ns_length]; exact hn) (fun j x hj hx => ?_) (fun x hx => ?_)
  · have := h j hj
    rw [bt_ns, List.getD_eq_getElem?_getD, hx] at this
    simpa using this
  · have hlt : n < s.size := by rw [← ns_length]; exact (List.getElem?_eq_some_iff.1 hx).1
    have := he hlt
    rw [bt_ns, List.getD_eq_getElem?_getD, hx] at this
    rcases this with h1 | h1 <;> simp at h1 <;> simp [h1]
set_option maxHeartbeats 1000000 in
theorem hertzutils_FilterContentType.calls (a0 : ByteArray) (r : ByteArray) (w : World) (h : hertzutils_FilterContentType.f a0 = some r) :
    Calls Tryd.prog 71 #[.string a0] w fun e w' => e = .returned (.string r) ∧ Below w.heap.size w w' := by
  obtain rfl : a0.extract 0 (typeLen a0) = r := Option.some.inj h
  clear h
  go_enter Tryd.func71, Tryd.ntmps71
  go_wp2
  go_loopw [3] (fun _ w' => ∃ pos : Nat, w' = w.iter a0 pos ∧ pos ≤ a0.size ∧ ∀ j : Nat, j < pos → bt a0 (j : Int) ≠ 32 ∧ bt a0 (j : Int) ≠ 59) (fun _ w' => a0.size - w'.iterPos w.heap.size)
  case atStart => exact ⟨0, rfl, by omega, fun j hj => by omega⟩
  case round =>
    obtain ⟨pos, rfl, hpos, hall⟩ := hrel
    have HALL := Lib.hid hall
    clear hall
    by_cases hp : pos < a0.size
    · have hnx : ∀ ty, (Instr.next (.pointer (some ⟨w.heap.size, 0, none⟩)) true ty).run Tryd.prog (w.iter a0 pos) = _ := fun ty => run_next_any w a0 pos ty hp
      have h32 := rune_is a0 pos hp 32 (by decide)
      have h59 := rune_is a0 pos hp 59 (by decide)
      have hwd := width_pos a0 pos hp
      have hct := conts a0 pos
      have HCT := Lib.hid hct
      clear hct
      by_cases c32 : bt a0 (pos : Int) = 32
      · have t32 : (((Utf8.decode a0 pos).1 : Int) == 32) = true := beq_iff_eq.2 (h32.2 c32)
        have HT := Lib.hid (typeLen_is a0 pos hpos HALL.out (fun _ => .inl c32))
        clear h32 h59 c32 hwd
        go_wp2
        go_ret
        exact ⟨by rw [HT.out]; simp, (Below.refl _ _).alloc (Nat.le_refl _) _⟩
      · have t32 : (((Utf8.decode a0 pos).1 : Int) == 32) = false := beq_eq_false_iff_ne.2 (fun e => c32 (h32.1 e))
        by_cases c59 : bt a0 (pos : Int) = 59
        · have t59 : (((Utf8.decode a0 pos).1 : Int) == 59) = true := beq_iff_eq.2 (h59.2 c59)
          have HT := Lib.hid (typeLen_is a0 pos hpos HALL.out (fun _ => .inr c59))
          clear h32 h59 c32 c59 hwd
          go_wp2
          go_ret
          exact ⟨by rw [HT.out]; simp, (Below.refl _ _).alloc (Nat.le_refl _) _⟩
        · have t59 : (((Utf8.decode a0 pos).1 : Int) == 59) = false := beq_eq_false_iff_ne.2 (fun e => c59 (h59.1 e))
          have hnew : pos + (Utf8.decode a0 pos).2 ≤ a0.size ∧ ∀ j : Nat, j < pos + (Utf8.decode a0 pos).2 → bt a0 (j : Int) ≠ 32 ∧ bt a0 (j : Int) ≠ 59 := by
            refine ⟨?_, fun j hj => ?_⟩
            · rcases Nat.lt_or_ge 1 (Utf8.decode a0 pos).2 with h1 | h1
              · have := (HCT.out ((Utf8.decode a0 pos).2 - 1) (by omega) (by omega)).1
                omega
              · omega
            · rcases Nat.lt_or_ge j pos with h1 | h1
              · exact HALL.out j h1
              · rcases Nat.eq_or_lt_of_le h1 with h2 | h2
                · subst h2; exact ⟨c32, c59⟩
                · have := (HCT.out (j - pos) (by omega) (by omega)).2
                  have e : pos + (j - pos) = j := by omega
                  rw [e] at this
                  omega
          have HN := Lib.hid hnew
          clear hnew h32 h59 c32 c59
          go_wp2
          go_roundw
          case rel => exact ⟨_, rfl, HN.out.1, HN.out.2⟩
          case measure =>
            simp
            omega
    · have hnx : ∀ ty, (Instr.next (.pointer (some ⟨w.heap.size, 0, none⟩)) true ty).run Tryd.prog (w.iter a0 pos) = _ := fun ty => run_next_end w a0 pos ty hp
      have HT := Lib.hid (typeLen_is a0 pos hpos HALL.out (fun hl => absurd hl hp))
      go_wp2
      go_ret
      refine ⟨?_, (Below.refl _ _).alloc (Nat.le_refl _) _⟩
      rw [HT.out]
      have e : pos = a0.size := by omega
      have e2 : a0.extract 0 pos = a0 := by
        refine ns_inj ?_
        rw [ns_extract, List.drop_zero, Nat.sub_zero, e, ← ns_length, List.take_length]
      rw [e2]; rfl
def statL : List (Int × ByteArray) := [
  (100, ⟨#[67, 111, 110, 116, 105, 110, 117, 101]⟩),
  (101, ⟨#[83, 119, 105, 116, 99, 104, 105, 110, 103, 32, 80, 114, 111, 116, 111, 99, 111, 108, 115]⟩),
  (102, ⟨#[80, 114, 111, 99, 101, 115, 115, 105, 110, 103]⟩),
  (200, ⟨#[79, 75]⟩),
  (201, ⟨#[67, 114, 101, 97, 116, 101, 100]⟩),
  (202, ⟨#[65, 99, 99, 101, 112, 116, 101, 100]⟩),
  (203, ⟨#[78, 111, 110, 45, 65, 117, 116, 104, 111, 114, 105, 116, 97, 116, 105, 118, 101, 32, 73, 110, 102, 111, 114, 109, 97, 116, 105, 111, 110]⟩),
  (204, ⟨#[78, 111, 32, 67, 111, 110, 116, 101, 110, 116]⟩),
  (205, ⟨#[82, 101, 115, 101, 116, 32, 67, 111, 110, 116, 101, 110, 116]⟩),
  (206, ⟨#[80, 97, 114, 116, 105, 97, 108, 32, 67, 111, 110, 116, 101, 110, 116]⟩),
  (207, ⟨#[77, 117, 108, 116, 105, 45, 83, 116, 97, 116, 117, 115]⟩),
  (208, ⟨#[65, 108, 114, 101, 97, 100, 121, 32, 82, 101, 112, 111, 114, 116, 101, 100]⟩),
  (226, ⟨#[73, 77, 32, 85, 115, 101, 100]⟩),
  (300, ⟨#[77, 117, 108, 116, 105, 112, 108, 101, 32, 67, 104, 111, 105, 99, 101, 115]⟩),
  (301, ⟨#[77, 111, 118, 101, 100, 32, 80, 101, 114, 109, 97, 110, 101, 110, 116, 108, 121]⟩),
  (302, ⟨#[70, 111, 117, 110, 100]⟩),
  (303, ⟨#[83, 101, 101, 32, 79, 116, 104, 101, 114]⟩),
  (304, ⟨#[78, 111, 116, 32, 77, 111, 100, 105, 102, 105, 101, 100]⟩),
  (305, ⟨#[85, 115, 101, 32, 80, 114, 111, 120, 121]⟩),
  (307, ⟨#[84, 101, 109, 112, 111, 114, 97, 114, 121, 32, 82, 101, 100, 105, 114, 101, 99, 116]⟩),
  (308, ⟨#[80, 101, 114, 109, 97, 110, 101, 110, 116, 32, 82, 101, 100, 105, 114, 101, 99, 116]⟩),
  (400, ⟨#[66, 97, 100, 32, 82, 101, 113, 117, 101, 115, 116]⟩),
  (401, ⟨#[85, 110, 97, 117, 116, 104, 111, 114, 105, 122, 101, 100]⟩),
  (402, ⟨#[80, 97, 121, 109, 101, 110, 116, 32, 82, 101, 113, 117, 105, 114, 101, 100]⟩),
  (403, ⟨#[70, 111, 114, 98, 105, 100, 100, 101, 110]⟩),
  (404, ⟨#[78, 111, 116, 32, 70, 111, 117, 110, 100]⟩),
  (405, ⟨#[77, 101, 116, 104, 111, 100, 32, 78, 111, 116, 32, 65, 108, 108, 111, 119, 101, 100]⟩),
  (406, ⟨#[78, 111, 116, 32, 65, 99, 99, 101, 112, 116, 97, 98, 108, 101]⟩),
  (407, ⟨#[80, 114, 111, 120, 121, 32, 65, 117, 116, 104, 101, 110, 116, 105, 99, 97, 116, 105, 111, 110, 32, 82, 101, 113, 117, 105, 114, 101, 100]⟩),
  (408, ⟨#[82, 101, 113, 117, 101, 115, 116, 32, 84, 105, 109, 101, 111, 117, 116]⟩),
  (409, ⟨#[67, 111, 110, 102, 108, 105, 99, 116]⟩),
  (410, ⟨#[71, 111, 110, 101]⟩),
  (411, ⟨#[76, 101, 110, 103, 116, 104, 32, 82, 101, 113, 117, 105, 114, 101, 100]⟩),
  (412, ⟨#[80, 114, 101, 99, 111, 110, 100, 105, 116, 105, 111, 110, 32, 70, 97, 105, 108, 101, 100]⟩),
  (413, ⟨#[82, 101, 113, 117, 101, 115, 116, 32, 69, 110, 116, 105, 116, 121, 32, 84, 111, 111, 32, 76, 97, 114, 103, 101]⟩),
  (414, ⟨#[82, 101, 113, 117, 101, 115, 116, 32, 85, 82, 73, 32, 84, 111, 111, 32, 76, 111, 110, 103]⟩),
  (415, ⟨#[85, 110, 115, 117, 112, 112, 111, 114, 116, 101, 100, 32, 77, 101, 100, 105, 97, 32, 84, 121, 112, 101]⟩),
  (416, ⟨#[82, 101, 113, 117, 101, 115, 116, 101, 100, 32, 82, 97, 110, 103, 101, 32, 78, 111, 116, 32, 83, 97, 116, 105, 115, 102, 105, 97, 98, 108, 101]⟩),
  (417, ⟨#[69, 120, 112, 101, 99, 116, 97, 116, 105, 111, 110, 32, 70, 97, 105, 108, 101, 100]⟩),
  (418, ⟨#[73, 39, 109, 32, 97, 32, 116, 101, 97, 112, 111, 116]⟩),
  (422, ⟨#[85, 110, 112, 114, 111, 99, 101, 115, 115, 97, 98, 108, 101, 32, 69, 110, 116, 105, 116, 121]⟩),
  (423, ⟨#[76, 111, 99, 107, 101, 100]⟩),
  (424, ⟨#[70, 97, 105, 108, 101, 100, 32, 68, 101, 112, 101, 110, 100, 101, 110, 99, 121]⟩),
  (426, ⟨#[85, 112, 103, 114, 97, 100, 101, 32, 82, 101, 113, 117, 105, 114, 101, 100]⟩),
  (428, ⟨#[80, 114, 101, 99, 111, 110, 100, 105, 116, 105, 111, 110, 32, 82, 101, 113, 117, 105, 114, 101, 100]⟩),
  (429, ⟨#[84, 111, 111, 32, 77, 97, 110, 121, 32, 82, 101, 113, 117, 101, 115, 116, 115]⟩),
  (431, ⟨#[82, 101, 113, 117, 101, 115, 116, 32, 72, 101, 97, 100, 101, 114, 32, 70, 105, 101, 108, 100, 115, 32, 84, 111, 111, 32, 76, 97, 114, 103, 101]⟩),
  (451, ⟨#[85, 110, 97, 118, 97, 105, 108, 97, 98, 108, 101, 32, 70, 111, 114, 32, 76, 101, 103, 97, 108, 32, 82, 101, 97, 115, 111, 110, 115]⟩),
  (500, ⟨#[73, 110, 116, 101, 114, 110, 97, 108, 32, 83, 101, 114, 118, 101, 114, 32, 69, 114, 114, 111, 114]⟩),
  (501, ⟨#[78, 111, 116, 32, 73, 109, 112, 108, 101, 109, 101, 110, 116, 101, 100]⟩),
  (502, ⟨#[66, 97, 100, 32, 71, 97, 116, 101, 119, 97, 121]⟩),
  (503, ⟨#[83, 101, 114, 118, 105, 99, 101, 32, 85, 110, 97, 118, 97, 105, 108, 97, 98, 108, 101]⟩),
  (504, ⟨#[71, 97, 116, 101, 119, 97, 121, 32, 84, 105, 109, 101, 111, 117, 116]⟩),
  (505, ⟨#[72, 84, 84, 80, 32, 86, 101, 114, 115, 105, 111, 110, 32, 78, 111, 116, 32, 83, 117, 112, 112, 111, 114, 116, 101, 100]⟩),
  (506, ⟨#[86, 97, 114, 105, 97, 110, 116, 32, 65, 108, 115, 111, 32, 78, 101, 103, 111, 116, 105, 97, 116, 101, 115]⟩),
  (507, ⟨#[73, 110, 115, 117, 102, 102, 105, 99, 105, 101, 110, 116, 32, 83, 116, 111, 114, 97, 103, 101]⟩),
  (508, ⟨#[76, 111, 111, 112, 32, 68, 101, 116, 101, 99, 116, 101, 100]⟩),
  (510, ⟨#[78, 111, 116, 32, 69, 120, 116, 101, 110, 100, 101, 100]⟩),
  (511, ⟨#[78, 101, 116, 119, 111, 114, 107, 32, 65, 117, 116, 104, 101, 110, 116, 105, 99, 97, 116, 105, 111, 110, 32, 82, 101, 113, 117, 105, 114, 101, 100]⟩)]
def stOp (T : TypeId) (p : Int × ByteArray) : Oper := { dst := none, op := .insert T (.tmp 1) (.const (.int .i64 p.1)) (.const (.string p.2)), type := 0, pos := "status.go:120", after := #[{ on := 0, ground := .data }], guard := none }
def MapAt (w0 : World) (L : List (Int × ByteArray)) (W : World) : Prop :=
  Below w0.heap.size w0 W ∧ ∃ es clock, W.heap[w0.heap.size]? = some (.map es clock) ∧ es.toList.map (fun e => (e.key, e.val)) = L.map fun p => (.int .i64 p.1, .string p.2)
theorem MapAt.key {w0 W : World} {L : List (Int × ByteArray)} {es : Array MapEntry} (h : es.toList.map (fun e => (e.key, e.val)) = L.map fun p => ((.int .i64 p.1 : Value), (.string p.2 : Value))) : ∀ x ∈ es.toList, ∃ p ∈ L, x.key = .int .i64 p.1 ∧ x.val = .string p.2 := by
  intro x hx
  have : (x.key, x.val) ∈ es.toList.map (fun e => (e.key, e.val)) := List.mem_map.2 ⟨x, hx, rfl⟩
  rw [h] at this
  obtain ⟨p, hp, e⟩ := List.mem_map.1 this
  exact ⟨p, hp, (Prod.mk.inj e).1.symm, (Prod.mk.inj e).2.symm⟩
theorem upd_new {P : Program} {w0 W : World} {L : List (Int × ByteArray)} {mty kt et : TypeId} (hm : P.underlying mty = some (.map kt et)) (hd : P.underlying kt = some (.int .i64)) (h : MapAt w0 L W) (k : Int) (v : ByteArray) (hk : k ∉ L.map Prod.fst) :
    ∃ W', (Instr.mapUpdate mty (.map (some w0.heap.size)) (.int .i64 k) (.string v)).run P W = .ok () W' ∧ MapAt w0 (L ++ [(k, v)]) W' := by
  obtain ⟨hb, es, clock, hh, he⟩ := h
  have hkeys := MapAt.key (w0 := w0) (W := W) he
  have hk1 : MapKept.IsKey (.int .i64) (.int .i64 k) := rfl
  rcases MapKept.findNow_spec hk1 es.toList 0 (fun x hx => by obtain ⟨p, _, e, _⟩ := hkeys x hx; rw [e]; exact rfl) with ⟨h1, h2⟩ | ⟨j, e, _, h2, h3⟩
  · refine ⟨{ W with heap := W.heap.setIfInBounds w0.heap.size (.map (es.push { key := .int .i64 k, val := .string v, born := clock }) (clock + 1)) }, ?_, ?_⟩
    · simp [Instr.mapUpdate, run_underlying hm, MapKept.run_getObj_map hh, MapKept.run_checkKey hd hk1, MapKept.run_findKey hd h1, MapKept.run_setObj_map _ hh, Result.andThen]
    · obtain ⟨s1, s2⟩ := MapKept.heap_set (w := W) (r := w0.heap.size) (o' := .map (es.push { key := .int .i64 k, val := .string v, born := clock }) (clock + 1)) hh
      refine ⟨⟨hb.os, hb.tape, hb.output, by show _ ≤ (W.heap.setIfInBounds _ _).size; simpa using hb.size, fun i hi => (s2 i (by omega)).trans (hb.block i hi)⟩, _, _, s1, ?_⟩
      rw [Array.toList_push, List.map_append, List.map_append, he]
      rfl
  · exfalso
    obtain ⟨p, hp, e1, _⟩ := hkeys e (List.mem_of_getElem? h2)
    rw [e1] at h3
    injection h3 with _ h4
    exact hk (List.mem_map.2 ⟨p, hp, h4⟩)
theorem ins_all {P : Program} {ops : Array Oper} {Q : Exit → Act → World → Prop} {a : Act} {w0 : World} {rest : List Oper} {T kt et : TypeId} (hm : P.underlying T = some (.map kt et)) (hd : P.underlying kt = some (.int .i64)) (ha : a.tmps.getD 1 undef = .map (some w0.heap.size)) :
    ∀ (M L : List (Int × ByteArray)) (W : World), MapAt w0 L W → ((L ++ M).map Prod.fst).Nodup → (∀ W', MapAt w0 (L ++ M) W' → wpList P ops Q rest a W') → wpList P ops Q (M.map (stOp T) ++ rest) a W
  | [], L, W, h, _, hq => hq W (by rw [List.append_nil]; exact h)
  | (k, v) :: M, L, W, h, hn, hq => by
    have hk : k ∉ L.map Prod.fst := by
      rw [List.map_append, List.map_cons] at hn
      have := (List.nodup_append.1 hn).2.2
      exact fun hin => this k hin k (List.mem_cons_self ..) rfl
    obtain ⟨W', hr, hW'⟩ := upd_new hm hd h k v hk
    have ih := ins_all (rest := rest) (ops := ops) (Q := Q) hm hd ha M (L ++ [(k, v)]) W' hW' (by rw [List.append_assoc]; exact hn) (by rw [List.append_assoc]; exact hq)
    rw [List.map_cons, List.cons_append]
    refine wpList_plain rfl fun K hK => ?_
    unfold Oper.wp execOp
    simp only [stOp, ha, Act.eval, Sem.run_bind, Sem.run_pure, Result.andThen_ok, hr]
    exact hK _ _ ih
theorem wpList_split {P : Program} {ops : Array Oper} {Q : Exit → Act → World → Prop} {a : Act} {w : World} {l : List Oper} (n : Nat) (M : List Oper) (h : l.take n = M) (k : wpList P ops Q (M ++ l.drop n) a w) : wpList P ops Q l a w := by rw [← h, List.take_append_drop] at k; exact k
theorem stat_nodup : (statL.map Prod.fst).Nodup := by decide
set_option maxHeartbeats 1000000 in
set_option maxRecDepth 100000 in
theorem statMsgs_calls (w : World) : Calls Tryd.prog 78 #[] w fun e w' => e = .returned (.map (some w.heap.size)) ∧ MapAt w statL w' := by
  go_enter Tryd.func78, Tryd.ntmps78
  go_upto_region 1 with (fail)
  refine wp_region_lit ?_
  refine wpList_plain rfl fun K hK => ?_
  unfold Oper.wp execOp
  simp only [run_makeMap, Sem.run_bind, Sem.run_pure, Result.andThen_ok, Option.map_none]
  refine hK _ _ ?_
  clear hK
  refine wpList_split 59 (statL.map (stOp 62)) (by kernel_rfl) ?_
  refine ins_all (w0 := w) Tryd.underlying62 Tryd.underlying3 rfl statL [] _ ⟨(Below.refl _ _).alloc (Nat.le_refl _) _, #[], 0, heap_alloc_new w _, rfl⟩ stat_nodup (fun W' hW' => ?_)
  rw [List.nil_append] at hW'
  have HW := Lib.hid hW'
  clear hW'
  show wpList _ _ _ [_, _] _ _
  go_wp2
  go_ret
  exact ⟨rfl, HW.out⟩
def laws_low.f (a0 : ByteArray) : Option ByteArray := if a0.size ≤ 4611686018427387904 then some (strOfNums ((ns a0).map lo)) else none
def impl_NormalKey.f (a0 : ByteArray) : Option ByteArray := if a0.size ≤ 4611686018427387904 then some (strOfNums (nk (ns a0))) else none
set_option maxHeartbeats 1000000 in
theorem normalKey_calls (a0 : ByteArray) (w : World) (hbd : a0.size ≤ 4611686018427387904) :
    Calls Tryd.prog 37 #[.string a0] w fun e w' => e = .returned (.string (strOfNums (nk (ns a0)))) ∧ Below w.heap.size w w' := by
  have hcv := Lib.run_convert_string_bytes (P := Tryd.prog) w 9 49 5 a0 Tryd.underlying9 Tryd.underlying49 Tryd.underlying5
  have hbr := Br.conv w 5 a0
  have hbl := conv_below w 5 a0
  obtain ⟨c, hc⟩ : ∃ c, grownCap w a0.size 0 5 = c := ⟨_, rfl⟩
  rw [hc] at hcv
  clear hc
  obtain ⟨W, hW⟩ : ∃ W, Lib.bytesWorld w 5 a0 = W := ⟨_, rfl⟩
  rw [hW] at hcv hbr hbl
  clear hW
  have HB := Lib.hid hbr
  have HL := Lib.hid hbl
  have hlen : Hid ((ns a0).length = a0.size) := Lib.hid (ns_length a0)
  have hlen2 : Hid ((nk (ns a0)).length = a0.size) := Lib.hid (by rw [nk_length, ns_length])
  have hrg : Hid (∀ x ∈ ns a0, 0 ≤ x ∧ x ≤ 255) := Lib.hid (fun x hx => ns_range a0 x hx)
  clear hbr hbl
  go_enter Tryd.func37, Tryd.ntmps37
  go_wp2_with fail
  refine (nhk_calls W w.heap.size a0.size c (ns a0) hlen.out hrg.out hbd HB.out).mono ?_
  rintro e w' ⟨rfl, hb', ho⟩
  have HB' := Lib.hid hb'
  have HO := Lib.hid ho
  have htx := hb'.text (P := Tryd.prog) (src := 49) (dst := 9) Tryd.underlying49 Tryd.underlying5 Tryd.underlying9 c
  rw [hlen2.out] at htx
  clear hb' ho
  go_wp2
  go_ret
  exact ⟨rfl, HO.out.below HL.out (Nat.le_refl _)⟩
theorem impl_NormalKey.calls (a0 : ByteArray) (r : ByteArray) (w : World) (h : impl_NormalKey.f a0 = some r) :
    Calls Tryd.prog 37 #[.string a0] w fun e w' => e = .returned (.string r) ∧ Below w.heap.size w w' := by
  unfold impl_NormalKey.f at h
  by_cases hbd : a0.size ≤ 4611686018427387904
  · rw [if_pos hbd] at h
    obtain rfl : strOfNums (nk (ns a0)) = r := Option.some.inj h
    exact normalKey_calls a0 w hbd
  · rw [if_neg hbd] at h
    cases h
end Go.Proofs.YtgmjaggkiifdjaaDoor.Given
namespace Go.Proofs.YtgmjaggkiifdjaaDoor.QA
open Go.Proofs.YtgmjaggkiifdjaaDoor.Given
open Go.Proofs.YtgmjaggkiifdjaaDoor.PrX
open Go.RowKit Go.Proofs.YtgmjaggkiifdjaaDoorW.PrintWords Go.Proofs.YtgmjaggkiifdjaaDoorW.PrintLast Go.Proofs.YtgmjaggkiifdjaaDoorW.PrintMore
def impl_TypeAhead.f (a0 : ByteArray) : Option (ByteArray) := (hertzutils_FilterContentType.f a0).bind fun t275 => (some t275)
set_option maxHeartbeats 8000000 in
set_option maxRecDepth 100000 in
theorem impl_TypeAhead.calls (a0 : ByteArray) (r : ByteArray) (w : World) (h : impl_TypeAhead.f a0 = some r) :
    Calls Tryd.prog 41 #[.string a0] w fun e w' => e = .returned (.string r) ∧ Below w.heap.size w w' := by
  have HB := Aside0.mk (Below.refl w.heap.size w)
  have H : ((hertzutils_FilterContentType.f a0).bind fun t275 => (some t275)) = some r := h
  clear h
  replace H := Option.bind_eq_some_iff.mp H
  obtain ⟨t275, A20, H⟩ := H
  replace H : (some t275) = some r := H
  have A2 := Aside0.mk A20
  clear A20
  obtain rfl := Option.some.inj H
  go_enter Tryd.func41, Tryd.ntmps41
  go_wp2_with (first | ((with_reducible refine gate_callee (f := 71) rfl ?_); refine goesL_ (some 4) rfl rfl Tryd.func71 (by kernel_rfl) rfl #[.string a0] rfl (by (try simp only [List.map_toArray, List.map_cons, List.map_nil]); first | done | rfl | (simp only [List.length_drop, List.length_take]; rfl)) ?_; (with_reducible refine (hertzutils_FilterContentType.calls a0 t275 _ A2.out).mono ?_); rintro e w3 ⟨rfl, hb⟩; refine ⟨_, rfl, ?_⟩; have n0_ := Aside0.mk (below_step (by repeat (first | (with_reducible first | exact HB.out | apply below_alloc | apply pw_below_drewN | apply below_drew1) | exact HB.out)) hb); clear HB; have HB := n0_; clear n0_; (try clear hb); (try clear hb2); (try clear hk); (try clear hi)))
  go_ret
  exact ⟨by first | rfl | (simp [errW_none, errW_some] <;> rfl) | (simp [*, errW_none, errW_some] <;> rfl), by repeat (first | (with_reducible first | exact HB.out | apply below_alloc | apply pw_below_drewN | apply below_drew1) | exact HB.out)⟩
end Go.Proofs.YtgmjaggkiifdjaaDoor.QA
namespace Go.Proofs.YtgmjaggkiifdjaaDoor.Hlp
open Go.RowKit Go.Proofs.YtgmjaggkiifdjaaDoorW.PrintWords Go.Proofs.YtgmjaggkiifdjaaDoorW.PrintLast Go.Proofs.YtgmjaggkiifdjaaDoorW.PrintMore Go.Proofs.YtgmjaggkiifdjaaDoor.Base Go.Proofs.YtgmjaggkiifdjaaDoor.Gv
theorem bwk {B C : Nat} {a b : World} (h : B ≤ C) (k : Below C a b) : Below B a b := ⟨k.os, k.tape, k.output, k.size, fun i hi => k.block i (by omega)⟩
theorem dB {P : Program} {n : Nat} {a : Array Value} {W : World} {r : Value} (h : Calls P n a W fun e w' => e = .returned r ∧ Drawn0 W w') : Calls P n a W fun e w' => e = .returned r ∧ Below W.heap.size W w' :=
  h.mono (fun e w' ⟨he, n, hn⟩ => ⟨he, by subst hn; exact pw_below_drewN (Below.refl _ _) n⟩)
theorem strs_reps (W : World) (base : Nat) (ok : Nat → Prop) : ∀ l : List ByteArray, Reps (Kd.string.M W base ok) 1 l (l.map Value.string)
  | [] => Reps.none _ _
  | s :: r => Reps.one (show Kd.M Kd.string _ _ _ s [.string s] from rfl) (strs_reps W base ok r)
theorem strs_lit (w : World) (l : List ByteArray) (hl : l.length ≤ 1000000) (cs : Array Value) (hcs : cs = (l.map Value.string).toArray) : Kd.C Kd.string (w.alloc (.cells cs 9)) (some ⟨w.heap.size, 0, none⟩) l.length l := by
  subst hcs
  have hrep := strs_reps w w.heap.size (fun _ => True) l
  have h2 := World.ownsRow_lit (base := w.heap.size) (e := 9) (size := 1) w (l.map Value.string).toArray l.length (Nat.le_refl _) (by unfold maxLen; omega) (by simp)
  have hR : Kd.R Kd.string 9 (w.alloc (.cells (l.map Value.string).toArray 9)) w.heap.size (fun _ => True) (.slice (some ⟨w.heap.size, 0, none⟩) l.length l.length) l := by
    refine ⟨fun k hk => trivial, l.map Value.string, by simpa [show Kd.string.sz = 1 from rfl] using h2, ?_⟩
    exact (strs_reps _ _ _ l)
  exact (Kd.R_reads' hR).2.2
end Go.Proofs.YtgmjaggkiifdjaaDoor.Hlp
