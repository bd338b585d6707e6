/- Texts of this claim, one behind the other (merged by wip/prune.py of this repo, without what the proof does not use): HDel. -/
import Derived.Test.YtoimkmoalmmooaaZY9
import Derived.Deep.QuietTactic
import Derived.Laws.IdiomCopy
import Derived.StillTailTactics
set_option linter.unusedVariables false
set_option linter.unusedSimpArgs false
namespace Go.Proofs.Ytoimkmoalmmooaa.Own
open Go.RowKit Go.Proofs.YtoimkmoalmmooaaW.PrintWords Go.Proofs.YtoimkmoalmmooaaW.PrintLast Go.Proofs.YtoimkmoalmmooaaW.PrintMore Go.Proofs.Ytoimkmoalmmooaa.Base Go.Proofs.Ytoimkmoalmmooaa.Gv
def delKV (key : ByteArray) (l : List KVx) : List KVx := l.filter fun x => !(key.toList == (strOfNums x.k).toList)
def rot (S : List Slot) (i n : Nat) (s : Slot) : List Slot := (S.take i ++ (S.drop (i + 1)).take (n - 1 - i) ++ S.drop (n - 1)).set (n - 1) s
theorem rot_eq {S : List Slot} {i n : Nat} {s : Slot} (hi : i < n) (hn : n ≤ S.length) : rot S i n s = S.take i ++ (S.drop (i + 1)).take (n - 1 - i) ++ s :: S.drop n := by
  unfold rot
  have hl : (S.take i ++ (S.drop (i + 1)).take (n - 1 - i)).length = n - 1 := by
    rw [List.length_append, List.length_take, List.length_take, List.length_drop]; omega
  rw [List.set_append_right (n - 1) s (by omega), hl, Nat.sub_self, List.drop_eq_getElem_cons (i := n - 1) (by omega), List.set_cons_zero, show n - 1 + 1 = n by omega]
theorem rot_len {S : List Slot} {i n : Nat} {s : Slot} (hi : i < n) (hn : n ≤ S.length) : (rot S i n s).length = S.length := by
  rw [rot_eq hi hn]
  simp only [List.length_append, List.length_take, List.length_drop, List.length_cons]
  omega
theorem split_at {S : List Slot} {i n : Nat} {s : Slot} (hs : S[i]? = some s) (hi : i < n) (hn : n ≤ S.length) : S = S.take i ++ s :: ((S.drop (i + 1)).take (n - 1 - i) ++ S.drop n) := by
  have h1 : S.drop i = s :: S.drop (i + 1) := by
    obtain ⟨h, e⟩ := List.getElem?_eq_some_iff.1 hs
    rw [List.drop_eq_getElem_cons h, e]
  have h2 : S.drop (i + 1) = (S.drop (i + 1)).take (n - 1 - i) ++ S.drop n := by
    have := (List.take_append_drop (n - 1 - i) (S.drop (i + 1))).symm
    rw [List.drop_drop, show i + 1 + (n - 1 - i) = n by omega] at this
    exact this
  conv => lhs; rw [← List.take_append_drop i S, h1, h2]
theorem rot_perm {S : List Slot} {i n : Nat} {s : Slot} (hs : S[i]? = some s) (hi : i < n) (hn : n ≤ S.length) : (rot S i n s).Perm S := by
  rw [rot_eq hi hn]
  conv => rhs; rw [split_at hs hi hn]
  rw [List.append_assoc]
  exact List.Perm.append_left _ List.perm_middle
theorem rot_kvs {S : List Slot} {i n : Nat} {s : Slot} (hs : S[i]? = some s) (hi : i < n) (hn : n ≤ S.length) : kvs (rot S i n s) (n - 1) = (kvs S n).take i ++ (kvs S n).drop (i + 1) := by
  have hl : (S.take i ++ (S.drop (i + 1)).take (n - 1 - i)).length = n - 1 := by
    rw [List.length_append, List.length_take, List.length_take, List.length_drop]; omega
  unfold kvs
  rw [rot_eq hi hn, List.take_left' hl]
  rw [← List.map_take, ← List.map_drop, ← List.map_append, List.take_take, Nat.min_eq_left (by omega), List.drop_take, show n - (i + 1) = n - 1 - i by omega]
theorem cells_take (S : List Slot) (i : Nat) : (cellsOf S).take (i * 3) = cellsOf (S.take i) := by
  induction S generalizing i with
  | nil => simp [cellsOf]
  | cons s S ih =>
    cases i with
    | zero => simp [cellsOf]
    | succ i =>
      rw [cellsOf_cons, show (i + 1) * 3 = i * 3 + 1 + 1 + 1 by omega, List.take_succ_cons, List.take_succ_cons, List.take_succ_cons, ih, List.take_succ_cons, cellsOf_cons]
theorem cells_drop (S : List Slot) (i : Nat) : (cellsOf S).drop (i * 3) = cellsOf (S.drop i) := by
  induction S generalizing i with
  | nil => simp [cellsOf]
  | cons s S ih =>
    cases i with
    | zero => simp [cellsOf]
    | succ i =>
      rw [cellsOf_cons, show (i + 1) * 3 = i * 3 + 1 + 1 + 1 by omega, List.drop_succ_cons, List.drop_succ_cons, List.drop_succ_cons, ih, List.drop_succ_cons]
theorem copy_run {P : Program} {ops : Array Oper} {rest : List Oper} {o : Oper} {a : Act} {Q : Exit → Act → World → Prop} {W w1 : World} (hgd : o.guard = none) (s x : Operand) (t u : TypeId)
    (ho : o.op = .call { callee := .builtin .copy, args := #[s, x], argTypes := #[t, u] }) (V X v1 : Value) (hs : a.eval s = V) (hx : a.eval x = X)
    (hr : (Builtin.copy_ #[t, u] o.type #[V, X]).run P W = .ok v1 w1) (h : wpList P ops Q rest (a.put o.dst v1) w1) : wpList P ops Q (o :: rest) a W := by
  refine wpList_plain hgd fun K hK => ?_
  unfold Oper.wp execOp
  simp only [ho, resolve, invoke, builtin, Sem.run_bind, Sem.run_pure, Result.andThen_ok, List.map_toArray, List.map_cons, List.map_nil, hs, hx, hr]
  exact hK _ _ h
theorem run_copy_kv {l : Nat → Nat} {w : World} {z a n i c1 c2 : Nat} {S : List Slot} (ty : TypeId) (h : Kv l w z a S) (hn : n ≤ S.length) (hi : i < n) (A2 : Option Addr) (hA : i + 1 < n → A2 = some ⟨a, (i + 1) * 3, none⟩) :
    (Builtin.copy_ #[53, 53] ty #[.slice (some ⟨a, i * 3, none⟩) (n - i) c1, .slice A2 (n - (i + 1)) c2]).run Try.prog w =
      .ok (goInt ((n - 1 - i : Nat) : Int)) (w.setRow a (cellsOf (S.take i ++ (S.drop (i + 1)).take (n - 1 - i) ++ S.drop (n - 1))).toArray) := by
  have hinfo : (Try.prog.info? 56).map (fun i => (i.zero, i.size, i.bytes)) = some (some (.agg #[.slice none 0 0, .slice none 0 0, .bool false]), 3, 56) := by kernel_rfl
  obtain ⟨i0, hi0, hz0, hz1, hz2⟩ := info_parts hinfo
  have hw := h.arr.1
  have hcl := cellsOf_length S
  obtain ⟨cs, hcs⟩ : ∃ cs, cellsOf ((S.drop (i + 1)).take (n - 1 - i)) = cs := ⟨_, rfl⟩
  have hlen : cs.length = (n - 1 - i) * 3 := by
    rw [← hcs, cellsOf_length, List.length_take, List.length_drop, Nat.min_eq_left (by omega)]
  have h1 : ∀ v ∈ cs, v.oneCell' = true := by
    intro v hv
    rw [← hcs] at hv
    obtain ⟨s, hs, hv⟩ := List.mem_flatMap.1 hv
    have hsm := List.mem_of_mem_drop (List.mem_of_mem_take hs)
    obtain ⟨A1, c1', e1, _⟩ := (h.slot s hsm).1.slice
    obtain ⟨A2', c2', e2, _⟩ := (h.slot s hsm).2.slice
    simp only [Slot.cells, List.mem_cons, List.not_mem_nil, or_false] at hv
    rcases hv with rfl | rfl | rfl
    · rw [e1]; rfl
    · rw [e2]; rfl
    · rfl
  have hsrc : ∀ j v, cs[j]? = some v → w.cell? ((⟨a, (i + 1) * 3, none⟩ : Addr).add j) = some v := by
    intro j v hv
    have hj : j < (n - 1 - i) * 3 := by rw [← hlen]; exact (List.getElem?_eq_some_iff.1 hv).1
    rw [Addr.add_lit, h.arr.cell, List.getElem?_toArray]
    rw [← hcs, ← cells_take, ← cells_drop, List.getElem?_take, if_pos hj, List.getElem?_drop] at hv
    exact hv
  have hst := run_storeCells_at Try.prog a (i * 3) 56 cs 0 (cellsOf S).toArray w hw (by rw [hlen]; simp [hcl]; omega) h1
  have hfin : ((cellsOf S).take (i * 3 + 0) ++ cs ++ (cellsOf S).drop (i * 3 + 0 + cs.length)).toArray = (cellsOf (S.take i ++ (S.drop (i + 1)).take (n - 1 - i) ++ S.drop (n - 1))).toArray := by
    rw [Nat.add_zero, hlen, show i * 3 + (n - 1 - i) * 3 = (n - 1) * 3 by omega, cells_take, cells_drop, ← hcs, cellsOf_append, cellsOf_append]
  rw [show (cellsOf S).toArray.toList = cellsOf S from rfl, hfin] at hst
  have hmin : min (n - (i + 1)) (n - i) = n - 1 - i := by omega
  have hld : (Builtin.firstCells 3 (n - 1 - i) (.slice A2 (n - (i + 1)) c2)).run Try.prog w = .ok cs.toArray w := by
    by_cases h0 : i + 1 < n
    · rw [hA h0]
      exact run_firstCells_some w 3 (n - 1 - i) ⟨a, (i + 1) * 3, none⟩ _ _ cs hlen hsrc
    · have e : n - 1 - i = 0 := by omega
      rw [e] at hlen ⊢
      obtain rfl : cs = [] := List.eq_nil_of_length_eq_zero (by omega)
      cases A2 with
      | none => rfl
      | some x => exact run_firstCells_some w 3 0 x _ _ [] rfl (fun j v hv => by simp at hv)
  simp [Builtin.copy_, run_underlying Try.underlying53, Builtin.lenOf, sizeOf, typeInfo, hi0, hz1, hmin, hld, hst]
theorem rot_take {S : List Slot} {i n : Nat} {s : Slot} (hi : i < n) (hn : n ≤ S.length) : (rot S i n s).take (n - 1) = (S.take n).take i ++ (S.take n).drop (i + 1) := by
  have hl : (S.take i ++ (S.drop (i + 1)).take (n - 1 - i)).length = n - 1 := by
    rw [List.length_append, List.length_take, List.length_take, List.length_drop]; omega
  rw [rot_eq hi hn, List.take_left' hl, List.take_take, Nat.min_eq_left (by omega), List.drop_take, show n - (i + 1) = n - 1 - i by omega]
theorem set_three {M : List Slot} {j : Nat} {t : Slot} (s : Slot) (ht : M[j]? = some t) : (((cellsOf M).set (j * 3) s.k).set (j * 3 + 1) s.v).set (j * 3 + 2) (.bool s.no) = cellsOf (M.set j s) := by
  have h1 := cellsOf_set M j t { t with k := s.k } ht 0 s.k (by omega) rfl
  have h2 := cellsOf_set (M.set j { t with k := s.k }) j { t with k := s.k } { t with k := s.k, v := s.v } (get_set ht) 1 s.v (by omega) rfl
  have h3 := cellsOf_set ((M.set j { t with k := s.k }).set j { t with k := s.k, v := s.v }) j { t with k := s.k, v := s.v } s (get_set (get_set ht)) 2 (.bool s.no) (by omega) rfl
  rw [Nat.add_zero] at h1
  rw [h1, h2, h3, set_set_at, set_set_at]
theorem del_hit {key : ByteArray} {l : List KVx} {i : Nat} {x : KVx} (h : l[i]? = some x) (he : key.toList = (strOfNums x.k).toList) : (l.take i ++ l.drop (i + 1)).take i ++ delKV key ((l.take i ++ l.drop (i + 1)).drop i) = l.take i ++ delKV key (l.drop i) := by
  have hi : i < l.length := (List.getElem?_eq_some_iff.1 h).1
  have hl : (l.take i).length = i := by rw [List.length_take]; omega
  have hd : l.drop i = x :: l.drop (i + 1) := by
    obtain ⟨h1, e⟩ := List.getElem?_eq_some_iff.1 h
    rw [List.drop_eq_getElem_cons h1, e]
  rw [List.take_left' hl, List.drop_left' hl, hd]
  unfold delKV
  rw [List.filter_cons_of_neg (by simp [he])]
theorem del_miss {key : ByteArray} {l : List KVx} {i : Nat} {x : KVx} (h : l[i]? = some x) (he : ¬ key.toList = (strOfNums x.k).toList) : l.take (i + 1) ++ delKV key (l.drop (i + 1)) = l.take i ++ delKV key (l.drop i) := by
  have hd : l.drop i = x :: l.drop (i + 1) := by
    obtain ⟨h1, e⟩ := List.getElem?_eq_some_iff.1 h
    rw [List.drop_eq_getElem_cons h1, e]
  rw [List.take_add_one, h, hd]
  unfold delKV
  rw [List.filter_cons_of_pos (by simp [he])]
  simp
theorem Kv.perm {l : Nat → Nat} {w w1 : World} {z a : Nat} {S S1 : List Slot} (h : Kv l w z a S) (hp : S1.Perm S) (st : Stp (· = z) l l w w1) (hnew : w1.heap[a]? = some (.cells (cellsOf S1).toArray 56 (0, 0))) : Kv l w1 z a S1 := by
  refine ⟨h.hz, ⟨hnew, h.arr.2⟩, fun s hs => ?_, (hp.map Slot.id).nodup_iff.2 h.ids⟩
  have hb := h.slot s (hp.mem_iff.1 hs)
  exact ⟨hb.1.keep st (kLab_ne h.hz), hb.2.keep st (vLab_ne h.hz)⟩
theorem conv_read {w : World} {A : Option Addr} {c : Nat} {xs : List Int} (h : ReadsInt w .u8 A xs.length xs) : (convert 54 9 (.slice A xs.length c)).run Try.prog w = .ok (.string (strOfNums xs)) w := by
  have := Kd.C_string (P := Try.prog) (A := A) (c := c) Try.underlying54 Try.underlying5 Try.underlying9 (Kd.C_of_reads (d := (0 : Int)) (h1 := fun _ => rfl) h)
  simpa using this
theorem cutl (a n c k : Nat) (hk : k ≤ n) (W : World) : (Instr.slice 53 (.slice (some ⟨a, 0, none⟩) n c) (some (.int .i64 (k : Int))) none none).run Try.prog W = .ok (.slice (if c = k then some ⟨a, 0, none⟩ else some ⟨a, k * 3, none⟩) (n - k) (c - k)) W := by
  have hinfo : (Try.prog.info? 56).map (fun i => (i.zero, i.size, i.bytes)) = some (some (.agg #[.slice none 0 0, .slice none 0 0, .bool false]), 3, 56) := by kernel_rfl
  obtain ⟨i0, hi0, hz0, hz1, hz2⟩ := info_parts hinfo
  have hel : Try.prog.elem 53 = 56 := by simp [Program.elem, Try.underlying53]
  have hu : Try.prog.underlying 53 = some (.slice (Try.prog.elem 53)) := by rw [hel]; exact Try.underlying53
  have hsz : (sizeOf 56).run Try.prog W = .ok 3 W := by simp [sizeOf, typeInfo, hi0, hz1]
  rw [run_slice_l W 53 (some ⟨a, 0, none⟩) n c hu .i64 (k : Int) (by omega) (by omega), hel, hsz]
  by_cases hk0 : k = 0
  · subst hk0; simp [Result.andThen, sliced, Addr.add]
  · have : ¬ k * 3 = 0 := by omega
    simp [Result.andThen, sliced, Addr.add, this]
set_option maxHeartbeats 1000000 in
set_option maxRecDepth 100000 in
theorem delAllArgs_some (l : Nat → Nat) (w : World) (z a n : Nat) (S : List Slot) (key : ByteArray) (h : Kv l w z a S) (hle : n ≤ S.length) (hmx : S.length ≤ maxLen) (hn : n ≤ 1099511627776) (hnn : ∀ s ∈ S.take n, s.v.ownBlock ≠ none) :
    Calls Try.prog 75 #[.slice (some ⟨a, 0, none⟩) n S.length, .string key] w fun e w' => ∃ n1 S1, e = .returned (.slice (some ⟨a, 0, none⟩) n1 S1.length) ∧ n1 ≤ n ∧ n1 ≤ S1.length ∧ S1.length = S.length ∧ Kv l w' z a S1 ∧ (∀ s ∈ S1.take n1, s.v.ownBlock ≠ none) ∧ kvs S1 n1 = delKV key (kvs S n) ∧ Stp (Zn z) l l w w' := by
  have HH := Lib.hid h
  have HNN := Lib.hid hnn
  obtain ⟨N, hN⟩ : ∃ N, S.length = N := ⟨_, rfl⟩
  rw [hN] at hmx hle ⊢
  have HN := Lib.hid hN
  obtain ⟨RES, hR⟩ : ∃ R, delKV key (kvs S n) = R := ⟨_, rfl⟩
  rw [hR]
  have HR := Lib.hid hR
  clear h hnn hN hR
  go_enter Try.func75, Try.ntmps75
  go_wp2
  go_loopw [0, 5, 6, 7, 8] (fun av iv nv _ _ wr => ∃ (i n1 : Nat) (S1 : List Slot), av = .slice (some ⟨a, 0, none⟩) n1 N ∧ iv = .int .i64 i ∧ nv = .int .i64 n1 ∧ i ≤ n1 ∧ n1 ≤ n ∧ Hid (S1.length = N) ∧ Hid (Kv l wr z a S1) ∧ Hid (∀ s ∈ S1.take n1, s.v.ownBlock ≠ none) ∧ Hid ((kvs S1 n1).take i ++ delKV key ((kvs S1 n1).drop i) = RES) ∧ Hid (Stp (Zn z) l l w wr)) (fun _ iv nv _ _ _ => (intOf nv).toNat - (intOf iv).toNat)
  case atStart => exact ⟨0, n, S, rfl, rfl, rfl, by omega, by omega, HN, HH, HNN, Lib.hid (by simpa using HR.out), Lib.hid (Stp.refl _ _ _)⟩
  case round =>
    obtain ⟨i, n1, S1, rfl, rfl, rfl, hi, hn1, HL, HK, HNN1, HRES, HST⟩ := hrel
    by_cases hlt : i < n1
    · have q1 : (i : Int) < (n1 : Int) := by omega
      have hlen := HL.out
      obtain ⟨s, hs⟩ := get_some (S := S1) (n := i) (by omega)
      obtain ⟨⟨A1, c1, ek, z0, hc1, r1⟩, ⟨A2, c2, ev, z1, hc2, r2⟩, z2⟩ := HK.out.look hs
      have hcv := conv_read (c := c1) r1
      obtain ⟨kl, hkl⟩ : ∃ k, s.kx.length = k := ⟨_, rfl⟩
      rw [hkl] at z0 hcv
      have hat := kvs_at (n := n1) hs hlt
      obtain ⟨X, hX⟩ : ∃ X, strOfNums s.kx = X := ⟨_, rfl⟩
      rw [hX] at hcv
      have HX := Lib.hid hX
      have HKL := Lib.hid hkl
      have HS := Lib.hid hs
      have HAT := Lib.hid hat
      have EK := Lib.hid ek
      have EV := Lib.hid ev
      have hiN : i < N := by omega
      clear hs hat hX ek ev r1 r2 hc1 hc2 hkl hlen
      by_cases he : key.toList = X.toList
      · have hb : (key.toList == X.toList) = true := by rw [he]; exact beq_self_eq_true _
        go_wp2
        generalize hW : wr.alloc _ = W
        have hbel : Below wr.heap.size wr W := by rw [← hW]; exact (Below.refl _ _).alloc (Nat.le_refl _) _
        have htm : W.heap[wr.heap.size]? = some (.cells #[.slice A1 kl c1, .slice A2 s.vx.length c2, .bool s.no] 56 (0, 0)) := by rw [← hW]; exact heap_alloc_new wr _
        have hK2 : Kv l W z a S1 := HK.out.keep (F := fun _ => False) (Stp.of_below_same hbel _ _) (fun _ k => k.elim)
        have hK3 : Kv l W.drew z a S1 := hK2.keep (F := fun _ => False) (drew_stp _ l W 1) (fun _ k => k.elim)
        have hcp := run_copy_kv (i := i) (n := n1) (c1 := N - i) (c2 := N - (i + 1)) 3 hK3 (by have := HL.out; omega) hlt (if N = i + 1 then some ⟨a, 0, none⟩ else some ⟨a, (i + 1) * 3, none⟩) (fun h => by rw [if_neg (by have := HL.out; omega)])
        have hst3 : Stp (Zn z) l l wr W.drew := (Stp.of_below_same hbel _ _).trans (drew_stp _ l W 1)
        have q3 : (i : Int) + 1 ≤ (n1 : Int) := by omega
        have q2 : (i : Int) ≤ (n1 : Int) := by omega
        have hwr : IntKind.i64.wrap ((i : Int) + 1) = (i : Int) + 1 := by rw [IntKind.wrap_i64]; omega
        have hNi : ¬ N = i := by omega
        have htd : W.drew.heap[wr.heap.size]? = some (.cells #[.slice A1 kl c1, .slice A2 s.vx.length c2, .bool s.no] 56 (0, 0)) := htm
        obtain ⟨A3, hA3⟩ : ∃ A3, (if N = i + 1 then some ⟨a, 0, none⟩ else some ⟨a, (i + 1) * 3, none⟩ : Option Addr) = A3 := ⟨_, rfl⟩
        have hsl := fun W' : World => cutl a n1 N (i + 1) (by omega) W'
        have hsl0 := fun W' : World => cutl a n1 N i (by omega) W'
        rw [hA3] at hcp hsl
        rw [if_neg hNi] at hsl0
        push_cast at hsl
        have HK3 := Lib.hid hK3
        have HCP := Lib.hid hcp
        have HST3 := Lib.hid hst3
        have HTM := Lib.hid htd
        have HZ := Lib.hid hbel.size
        clear hW hbel htm hK2 hK3 hcp hst3 htd hA3
        go_still_tail 7, (by kernel_rfl)
        change wpList _ _ _ _ _ W.drew
        generalize W.drew = W2 at *
        refine copy_run rfl (.tmp 31) (.tmp 35) 53 53 rfl _ _ _ rfl rfl HCP.out ?_
        have hlM : (S1.take i ++ (S1.drop (i + 1)).take (n1 - 1 - i) ++ S1.drop (n1 - 1)).length = N := by
          have := HL.out
          rw [List.length_append, List.length_append, List.length_take, List.length_take, List.length_drop, List.length_drop]; omega
        obtain ⟨M, hM⟩ : ∃ M, S1.take i ++ (S1.drop (i + 1)).take (n1 - 1 - i) ++ S1.drop (n1 - 1) = M := ⟨_, rfl⟩
        rw [hM] at hlM
        obtain ⟨t, ht⟩ := get_some (S := M) (n := n1 - 1) (by omega)
        have hrow : (W2.setRow a (cellsOf M).toArray).heap[a]? = some (.cells (cellsOf M).toArray 56 (0, 0)) := setRow_heap W2 a _ _ _ _ HK3.out.arr.1
        have hoth : ∀ b, b ≠ a → (W2.setRow a (cellsOf M).toArray).heap[b]? = W2.heap[b]? := fun b hb => setRow_other W2 a b _ hb
        rw [hM]
        have hst4 : Stp (· = z) l l W2 (W2.setRow a (cellsOf M).toArray) := ⟨rfl, rfl, rfl, by simp [World.setRow], fun _ _ => rfl, fun b _ hf => setRow_other W2 a b _ (fun e => hf (by rw [e]; exact HK3.out.arr.2))⟩
        generalize W2.setRow a (cellsOf M).toArray = W3 at *
        have ha : wr.heap.size ≠ a := by have := HK.out.arr.lt; omega
        have htm3 := (hoth _ ha).trans HTM.out
        have y0 : W3.cell? ⟨wr.heap.size, 0, none⟩ = some (.slice A1 kl c1) := by rw [cell_of_row W3 _ 0 _ _ (0, 0) htm3]; rfl
        have y1 : W3.cell? ⟨wr.heap.size, 1, none⟩ = some (.slice A2 s.vx.length c2) := by rw [cell_of_row W3 _ 1 _ _ (0, 0) htm3]; rfl
        have y2 : W3.cell? ⟨wr.heap.size, 2, none⟩ = some (.bool s.no) := by rw [cell_of_row W3 _ 2 _ _ (0, 0) htm3]; rfl
        have hx : ∀ o, W3.frozen? ⟨a, o, none⟩ = false := fun o => frozen_of_row _ _ o _ _ hrow
        have x0 : W3.cell? ⟨a, (n1 - 1) * 3, none⟩ = some t.k := by rw [cell_of_row W3 _ _ _ _ (0, 0) hrow, List.getElem?_toArray]; have := cellsOf_at M (n1 - 1) t ht 0 (by omega); simpa [Slot.cells] using this
        have x1 : W3.cell? ⟨a, (n1 - 1) * 3 + 1, none⟩ = some t.v := by rw [cell_of_row W3 _ _ _ _ (0, 0) hrow, List.getElem?_toArray]; have := cellsOf_at M (n1 - 1) t ht 1 (by omega); simpa [Slot.cells] using this
        have x2 : W3.cell? ⟨a, (n1 - 1) * 3 + 2, none⟩ = some (.bool t.no) := by rw [cell_of_row W3 _ _ _ _ (0, 0) hrow, List.getElem?_toArray]; have := cellsOf_at M (n1 - 1) t ht 2 (by omega); simpa [Slot.cells] using this
        have w0 := hx ((n1 - 1) * 3)
        have w1 := hx ((n1 - 1) * 3 + 1)
        have w2 := hx ((n1 - 1) * 3 + 2)
        have eN : ((n1 : Int) - 1) = ((n1 - 1 : Nat) : Int) := by omega
        have hN1 : ((n1 - 1 : Nat) : Int) < (n1 : Int) := by omega
        have HM := Lib.hid hM
        have HROW := Lib.hid hrow
        have HOTH := Lib.hid hoth
        have HT := Lib.hid ht
        have HST4 := Lib.hid hst4
        clear hlM hM ht hrow hoth htm3 hx hst4
        go_wp2
        have hs := HS.out
        have hlen := HL.out
        have ek : Value.slice A1 kl c1 = s.k := by rw [EK.out, HKL.out]
        have ev : Value.slice A2 s.vx.length c2 = s.v := EV.out.symm
        rw [ek, ev]
        have hla : l a = z := HK3.out.arr.2
        have st5 : Stp (· = z) l l W2 (((W3.setCell ⟨a, (n1 - 1) * 3, none⟩ s.k).setCell ⟨a, (n1 - 1) * 3 + 1, none⟩ s.v).setCell ⟨a, (n1 - 1) * 3 + 2, none⟩ (.bool s.no)) := by
          have g0 := Stp.set (l := l) W3 ⟨a, (n1 - 1) * 3, none⟩ s.k
          have g1 := Stp.set (l := l) (W3.setCell ⟨a, (n1 - 1) * 3, none⟩ s.k) ⟨a, (n1 - 1) * 3 + 1, none⟩ s.v
          have g2 := Stp.set (l := l) ((W3.setCell ⟨a, (n1 - 1) * 3, none⟩ s.k).setCell ⟨a, (n1 - 1) * 3 + 1, none⟩ s.v) ⟨a, (n1 - 1) * 3 + 2, none⟩ (.bool s.no)
          simp only [hla] at g0 g1 g2
          exact ((HST4.out.trans g0).trans g1).trans g2
        have hrow5 : (((W3.setCell ⟨a, (n1 - 1) * 3, none⟩ s.k).setCell ⟨a, (n1 - 1) * 3 + 1, none⟩ s.v).setCell ⟨a, (n1 - 1) * 3 + 2, none⟩ (.bool s.no)).heap[a]? = some (.cells (cellsOf (rot S1 i n1 s)).toArray 56 (0, 0)) := by
          have r0 := heap_setCell_same W3 a ((n1 - 1) * 3) _ 56 s.k HROW.out
          have r1 := heap_setCell_same _ a ((n1 - 1) * 3 + 1) _ 56 s.v r0
          have r2 := heap_setCell_same _ a ((n1 - 1) * 3 + 2) _ 56 (.bool s.no) r1
          rw [r2]
          simp only [List.setIfInBounds_toArray]
          rw [set_three s HT.out, ← HM.out]
          rfl
        have hkf := HK3.out.perm (rot_perm hs hlt (by omega)) st5 hrow5
        refine ⟨⟨i, n1 - 1, rot S1 i n1 s, rfl, rfl, rfl, by omega, by omega, Lib.hid (by rw [rot_len hlt (by omega)]; exact hlen), Lib.hid hkf, Lib.hid (fun x hx => ?_), Lib.hid ?_, Lib.hid ((HST.out.trans HST3.out).trans (st5.zone (Nat.mod_eq_of_lt HK3.out.hz)))⟩, by simp [intOf]; omega⟩
        · rw [rot_take hlt (by omega)] at hx
          rcases List.mem_append.1 hx with h | h
          · exact HNN1.out x (List.mem_of_mem_take h)
          · exact HNN1.out x (List.mem_of_mem_drop h)
        · rw [rot_kvs hs hlt (by omega), del_hit HAT.out (by rw [he, ← HX.out])]
          exact HRES.out
      · have hb : (key.toList == X.toList) = false := beq_eq_false_iff_ne.2 he
        go_wp2
        go_roundw
        case rel => exact ⟨i + 1, n1, S1, rfl, by go_num, rfl, by omega, hn1, HL, HK, HNN1, Lib.hid (by rw [del_miss HAT.out (by rw [HX.out]; exact he)]; exact HRES.out), HST⟩
        case measure => simp [intOf]; omega
    · obtain rfl : n1 = i := by omega
      have q1 : ¬ ((n1 : Int) < (n1 : Int)) := by omega
      have hlen := HL.out
      have hl2 : n1 ≤ S1.length := by
        rcases Nat.lt_or_ge S1.length n1 with h | h
        · have := HH.out; omega
        · exact h
      clear hlen
      go_wp2
      go_ret
      refine ⟨n1, S1, (by rw [HL.out]; rfl), hn1, hl2, HL.out, HK.out, HNN1.out, ?_, HST.out⟩
      have := HRES.out
      have hk := kvs_length hl2
      rw [List.take_of_length_le (by omega), List.drop_eq_nil_of_le (by omega)] at this
      simpa [delKV] using this
set_option maxHeartbeats 1000000 in
set_option maxRecDepth 100000 in
theorem delAllArgs_nil (w : World) (key : ByteArray) :
    Calls Try.prog 75 #[.slice none 0 0, .string key] w fun e w' => e = .returned (.slice none 0 0) ∧ w' = w := by
  go_enter Try.func75, Try.ntmps75
  go_wp2
  go_loopw [0, 5, 6, 7, 8] (fun av iv nv _ _ wr => av = .slice none 0 0 ∧ iv = .int .i64 0 ∧ nv = .int .i64 0 ∧ wr = w) (fun _ _ _ _ _ _ => 0)
  case atStart => exact ⟨rfl, rfl, rfl, rfl⟩
  case round =>
    obtain ⟨rfl, rfl, rfl, rfl⟩ := hrel
    go_wp2
    go_ret
    exact ⟨rfl, rfl⟩
theorem delAllArgs_calls (l : Nat → Nat) (w : World) (z n : Nat) (V : Value) (S : List Slot) (key : ByteArray) (h : KvS l w z V n S) (hn : n ≤ 1099511627776) :
    Calls Try.prog 75 #[V, .string key] w fun e w' => ∃ V1 n1 S1, e = .returned V1 ∧ KvS l w' z V1 n1 S1 ∧ n1 ≤ n ∧ kvs S1 n1 = delKV key (kvs S n) ∧ Stp (Zn z) l l w w' := by
  obtain ⟨hz, hnn, ⟨rfl, rfl, rfl⟩ | ⟨a, rfl, hle, hmx, hkv⟩⟩ := h
  · refine (delAllArgs_nil w key).mono ?_
    rintro e w' ⟨rfl, rfl⟩
    exact ⟨_, 0, [], rfl, KvS.nil l w' z hz, Nat.le_refl _, rfl, Stp.refl _ _ _⟩
  · refine (delAllArgs_some l w z a n S key hkv hle hmx hn hnn).mono ?_
    rintro e w' ⟨n1, S1, rfl, h1, h2, h3, h4, h5, h6, h7⟩
    exact ⟨_, n1, S1, rfl, ⟨hz, h5, .inr ⟨a, by rw [h3], h2, by rw [h3]; exact hmx, h4⟩⟩, h1, h6, h7⟩
set_option maxHeartbeats 1000000 in
set_option maxRecDepth 100000 in
theorem delAllArgsBytes_calls (l : Nat → Nat) (w : World) (z n : Nat) (V : Value) (S : List Slot) (A : Option Addr) (c : Nat) (kx : List Int) (hk : ReadsInt w .u8 A kx.length kx) (h : KvS l w z V n S) (hn : n ≤ 1099511627776) :
    Calls Try.prog 61 #[V, .slice A kx.length c] w fun e w' => ∃ V1 n1 S1, e = .returned V1 ∧ KvS l w' z V1 n1 S1 ∧ n1 ≤ n ∧ kvs S1 n1 = delKV (strOfNums kx) (kvs S n) ∧ Stp (Zn z) l l w w' := by
  have HD := Lib.hid (delAllArgs_calls l w z n V S (strOfNums kx) h hn)
  have hcv := conv_read (c := c) hk
  obtain ⟨K, hK⟩ : ∃ K, kx.length = K := ⟨_, rfl⟩
  rw [hK] at hcv ⊢
  clear h hk hK
  go_enter Try.func61, Try.ntmps61
  go_wp2_with (go_at_call 75; refine HD.out.mono ?_; rintro e w1 ⟨V1, n1, S1, rfl, h1, h2, h3, h4⟩)
  go_ret
  exact ⟨_, n1, S1, rfl, h1, h2, h3, h4⟩
end Go.Proofs.Ytoimkmoalmmooaa.Own
