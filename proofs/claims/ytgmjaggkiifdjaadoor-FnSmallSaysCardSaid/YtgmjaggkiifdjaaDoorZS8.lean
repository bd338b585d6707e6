/- Texts of this claim, one behind the other (merged by wip/prune.py of this repo, without what the proof does not use): GSpliced. -/
import Derived.Test.YtgmjaggkiifdjaaDoorZS6
import Derived.Test.YtgmjaggkiifdjaaDoorZS7
import Derived.Defers
import Derived.Laws.CopyOwn
import Derived.Laws.OwnMore
import Derived.Lib.OthersKept
import Derived.Recover
set_option linter.unusedVariables false
set_option linter.unusedSimpArgs false
namespace Go.Proofs.YtgmjaggkiifdjaaDoor.Given
open Go.RowKit Go.Proofs.YtgmjaggkiifdjaaDoorW.PrintWords Go.Proofs.YtgmjaggkiifdjaaDoorW.PrintLast Go.Proofs.YtgmjaggkiifdjaaDoorW.PrintMore Go.Proofs.YtgmjaggkiifdjaaDoor.Base Go.Proofs.YtgmjaggkiifdjaaDoor.Gv Go.Proofs.YtgmjaggkiifdjaaDoor.QA
def commaPart (all : List Int) (p k : Nat) : ByteArray := strOfNums (ltrim ((all.take k).drop p))
def splGo (all : List Int) : Nat → Nat → List Int → List ByteArray
  | p, k, [] => [commaPart all p k]
  | p, k, c :: r => if c = 44 then commaPart all p k :: splGo all ((k + 1) % 256) (k + 1) r else splGo all p (k + 1) r
def splTl (all : List Int) (p k : Nat) : List ByteArray := if k ≤ all.length then splGo all p k (all.drop k) else []
def impl_Spliced.f (a0 : ByteArray) : Option (List ByteArray × Bool) :=
  if a0.size ≤ 1099511627776 then some (if a0.size = 0 then [] else splTl (ns a0) 0 0, true) else none
theorem splTl_skip (all : List Int) (p : Nat) : ∀ d k : Nat, k + d ≤ all.length → (∀ j, k ≤ j → j < k + d → all.getD j 0 ≠ 44) → splTl all p k = splTl all p (k + d) := by
  intro d
  induction d with
  | zero => intro k _ _; rfl
  | succ d ih =>
    intro k hk h
    have h1 : splTl all p k = splTl all p (k + 1) := by
      have hlt : k < all.length := by omega
      have h0 := h k (Nat.le_refl _) (by omega)
      rw [List.getD_eq_getElem?_getD, List.getElem?_eq_getElem hlt] at h0
      unfold splTl
      rw [if_pos (by omega), if_pos (by omega), List.drop_eq_getElem_cons hlt, splGo, if_neg (by simpa using h0)]
    rw [h1, ih (k + 1) (by omega) (fun j hj hj2 => h j (by omega) (by omega))]
    congr 1
    omega
theorem splTl_hit (all : List Int) (p k : Nat) (hk : k ≤ all.length) (h : k = all.length ∨ all.getD k 0 = 44) : splTl all p k = commaPart all p k :: splTl all ((k + 1) % 256) (k + 1) := by
  unfold splTl
  rw [if_pos hk]
  rcases Nat.lt_or_ge k all.length with hlt | hge
  · have h0 : all.getD k 0 = 44 := h.resolve_left (by omega)
    rw [List.getD_eq_getElem?_getD, List.getElem?_eq_getElem hlt] at h0
    rw [if_pos (by omega), List.drop_eq_getElem_cons hlt, splGo, if_pos (by simpa using h0)]
  · rw [if_neg (by omega), List.drop_eq_nil_of_le hge, splGo]
def Rowed (w : World) (base : Nat) (A : Option Addr) (m : Nat) (outs : List ByteArray) : Prop :=
  outs.length ≤ m ∧ ((A = none ∧ m = 0) ∨ ∃ (g : Nat) (cur : List Value), A = some ⟨g, 0, none⟩ ∧ base ≤ g ∧ w.heap[g]? = some (.cells cur.toArray 9 (0, 0)) ∧ cur.length = m ∧ cur.take outs.length = outs.map Value.string ∧ ∀ v ∈ cur, v.oneCell' = true)
theorem Rowed.kept {w w' : World} {base : Nat} {A : Option Addr} {m : Nat} {outs : List ByteArray} (h : Rowed w base A m outs) (hk : ∀ g, base ≤ g → g < w.heap.size → w'.heap[g]? = w.heap[g]?) : Rowed w' base A m outs := by
  obtain ⟨h1, h2⟩ := h
  refine ⟨h1, ?_⟩
  rcases h2 with h2 | ⟨g, cur, e, hb, hg, r⟩
  · exact .inl h2
  · have hlt : g < w.heap.size := (Array.getElem?_eq_some_iff.1 hg).1
    exact .inr ⟨g, cur, e, hb, by rw [hk g hb hlt]; exact hg, r⟩
theorem Rowed.own {w : World} {base : Nat} {A : Option Addr} {m n : Nat} {outs : List ByteArray} (h : Rowed w base A m outs) (hn : n = outs.length) (hm : m ≤ maxLen) : Kd.R Kd.string 9 w base (fun _ => True) (.slice A n m) outs := by
  subst hn
  obtain ⟨h1, h2⟩ := h
  refine Kd.R_of_own ?_ (fun _ _ => trivial)
  refine ⟨by rw [encs_length, Nat.mul_one], ?_⟩
  rcases h2 with ⟨rfl, rfl⟩ | ⟨g, cur, rfl, hb, hg, hc, ht, _⟩
  · exact .inl ⟨by rw [Nat.le_zero.1 h1], Nat.le_zero.1 h1⟩
  · exact .inr ⟨g, m, cur.toArray, rfl, hb, hg, h1, hm, by simp [hc], by rw [Nat.mul_one]; simpa [encs] using ht⟩
theorem below_weaken_ {B C : Nat} {a b : World} (h : B ≤ C) (k : Below C a b) : Below B a b := ⟨k.os, k.tape, k.output, k.size, fun i hi => k.block i (by omega)⟩
theorem make_strs (W : World) (m M base : Nat) (hM : M = m + m / 2 + 2) (hm : m ≤ 4398046511104) (hb : base ≤ W.heap.size) :
    ∃ W', (Instr.makeSlice 35 (.int .i64 ((m : Int) + (m : Int) / 2 + 2)) (.int .i64 ((m : Int) + (m : Int) / 2 + 2))).run Tryd.prog W = .ok (.slice (some ⟨W.heap.size, 0, none⟩) M M) W' ∧
      ∃ cur : List Value, W'.heap[W.heap.size]? = some (.cells cur.toArray 9 (0, 0)) ∧ cur.length = M ∧ (∀ v ∈ cur, v.oneCell' = true) ∧ W.grownBy W' none := by
  have hinfo : (Tryd.prog.info? 9).map (fun i => (i.zero, i.size, i.bytes)) = some (some (.string ByteArray.empty), 1, 16) := by kernel_rfl
  obtain ⟨i0, hi, hz, hsz, hby⟩ := info_parts hinfo
  obtain ⟨W', h1, h2, h3⟩ := run_make_full (P := Tryd.prog) W base 35 9 i0 (.string ByteArray.empty) 1 Tryd.underlying35 hi hz hsz .i64 .i64 M (by rw [hby]; omega) (by simp [maxLen]; omega) hb
  have e : ((M : Nat) : Int) = (m : Int) + (m : Int) / 2 + 2 := by omega
  rw [e] at h1
  refine ⟨W', h1, ?_⟩
  obtain ⟨hl, h2⟩ := h2
  rcases h2 with ⟨hv, _⟩ | ⟨g, cap, cur, hv, hbg, hg, hnc, hcm, hcs, htake⟩
  · cases hv
  · simp only [Value.slice.injEq, Option.some.injEq, Addr.mk.injEq, and_true, true_and] at hv
    obtain ⟨rfl, rfl⟩ := hv
    have hlen : cur.toList.length = M * 1 := by rw [Array.length_toList]; exact hcs
    have hall : cur.toList = (madeCells (Value.string ByteArray.empty).cells (M * 1)).toList := by
      rw [← htake, List.take_of_length_le (by omega)]
    refine ⟨cur.toList, by simpa using hg, by omega, fun v hv => ?_, h3⟩
    rw [hall] at hv
    have hv2 : v ∈ (madeCells #[Value.string ByteArray.empty] (M * 1)).toList := hv
    rw [toList_madeCells_one] at hv2
    rw [(List.mem_replicate.1 hv2).2]
    rfl
theorem Rowed.olds {w : World} {base : Nat} {A : Option Addr} {m : Nat} {outs : List ByteArray} (h : Rowed w base A m outs) (hm : m = outs.length) :
    (outs.map Value.string).length = m ∧ (0 < (outs.map Value.string).length → ∃ ad, A = some ad ∧ ∀ j v, (outs.map Value.string)[j]? = some v → w.cell? (ad.add j) = some v) := by
  refine ⟨by rw [List.length_map, hm], fun hp => ?_⟩
  obtain ⟨h1, h2⟩ := h
  rcases h2 with ⟨_, h2⟩ | ⟨g, cur, rfl, hb, hg, hc, ht, hone⟩
  · rw [List.length_map] at hp; omega
  · refine ⟨_, rfl, fun j v hj => ?_⟩
    have hall : cur = outs.map Value.string := by rw [← ht, List.take_of_length_le (by omega)]
    rw [Addr.add_lit, Nat.zero_add, cell_of_row w g j _ _ (0, 0) hg, ← hj, hall]
    simp
theorem rowed_new {W2 : World} {G base m M : Nat} {cur : List Value} {outs : List ByteArray} (hg : W2.heap[G]? = some (.cells (splice cur 0 (outs.map Value.string)).toArray 9 (0, 0))) (hc : cur.length = M) (ho : (outs.map Value.string).length = m) (hm : m ≤ M) (hone : ∀ v ∈ cur, v.oneCell' = true) (hb : base ≤ G) :
    Rowed W2 base (some ⟨G, 0, none⟩) M outs := by
  rw [List.length_map] at ho
  refine ⟨by omega, .inr ⟨G, _, rfl, hb, hg, ?_, ?_, fun v hv => ?_⟩⟩
  · rw [length_splice _ _ _ (by rw [List.length_map]; omega), hc]
  · simp [splice]
  · simp only [splice, List.mem_append] at hv
    rcases hv with hv | hv | hv
    · simp at hv
    · obtain ⟨y, _, rfl⟩ := List.mem_map.1 hv; rfl
    · exact hone v (List.mem_of_mem_drop hv)
theorem scan_at (a0 S : ByteArray) (hS : a0 ++ (⟨#[36]⟩ : ByteArray) = S) (p pos : Nat) (hlt : pos < S.size) :
    ((((Utf8.decode S pos).1 : Int) == 44) = true ∧ ((Utf8.decode S pos).2 = 1 ∧ pos ≤ a0.size ∧ splTl (ns a0) p pos = commaPart (ns a0) p pos :: splTl (ns a0) ((pos + 1) % 256) (pos + 1))) ∨
    ((((Utf8.decode S pos).1 : Int) == 44) = false ∧ (((pos : Nat) : Int) == ((a0.size : Nat) : Int)) = true ∧ ((Utf8.decode S pos).2 = 1 ∧ pos ≤ a0.size ∧ splTl (ns a0) p pos = commaPart (ns a0) p pos :: splTl (ns a0) ((pos + 1) % 256) (pos + 1))) ∨
    ((((Utf8.decode S pos).1 : Int) == 44) = false ∧ (((pos : Nat) : Int) == ((a0.size : Nat) : Int)) = false ∧ (1 ≤ (Utf8.decode S pos).2 ∧ pos + (Utf8.decode S pos).2 ≤ a0.size ∧ splTl (ns a0) p pos = splTl (ns a0) p (pos + (Utf8.decode S pos).2))) := by
  have hSz : S.size = a0.size + 1 := by rw [← hS, ByteArray.size_append]; rfl
  have hns : ns S = ns a0 ++ [36] := by rw [← hS, ns_append]; rfl
  have hbt : ∀ j : Nat, j < a0.size → bt S (j : Int) = (ns a0).getD j 0 := by
    intro j hj
    rw [bt_ns, hns, List.getD_eq_getElem?_getD, List.getD_eq_getElem?_getD, List.getElem?_append_left (by rw [ns_length]; exact hj)]
  have hend : bt S (a0.size : Int) = 36 := by
    rw [bt_ns, hns, List.getD_eq_getElem?_getD, List.getElem?_append_right (by rw [ns_length]; exact Nat.le_refl _), ns_length, Nat.sub_self]; rfl
  have h44 := rune_is S pos hlt 44 (by decide)
  have one : bt S (pos : Int) < 128 → (Utf8.decode S pos).2 = 1 := by
    intro hb
    have : (S[pos]'hlt).toNat < 128 := by
      have := bt_at S (pos : Int) hlt
      have e : ((S[pos]'hlt).toNat : Int) = bt S (pos : Int) := this
      omega
    rw [decode_ascii S pos hlt this]
  have hwp := width_pos S pos hlt
  have hct := conts S pos
  by_cases c1 : bt S (pos : Int) = 44
  · have hp : pos < a0.size := by
      rcases Nat.lt_or_ge pos a0.size with h | h
      · exact h
      · obtain rfl : pos = a0.size := by omega
        rw [hend] at c1; cases c1
    refine .inl ⟨beq_iff_eq.2 (h44.2 c1), one (by omega), by omega, splTl_hit _ _ _ (by rw [ns_length]; omega) (.inr (by rw [← hbt pos hp]; exact c1))⟩
  · by_cases c2 : pos = a0.size
    · refine .inr (.inl ⟨beq_eq_false_iff_ne.2 (fun e => c1 (h44.1 e)), beq_iff_eq.2 (by rw [c2]), one (by rw [c2, hend]; decide), by omega, splTl_hit _ _ _ (by rw [ns_length]; omega) (.inl (by rw [ns_length]; exact c2))⟩)
    · have hle : pos + (Utf8.decode S pos).2 ≤ a0.size := by
        rcases Nat.lt_or_ge a0.size (pos + (Utf8.decode S pos).2) with h | h
        · have := (hct (a0.size - pos) (by omega) (by omega)).2
          rw [show pos + (a0.size - pos) = a0.size by omega, hend] at this
          omega
        · exact h
      refine .inr (.inr ⟨beq_eq_false_iff_ne.2 (fun e => c1 (h44.1 e)), beq_eq_false_iff_ne.2 (by omega), hwp, hle, splTl_skip _ _ _ _ (by rw [ns_length]; exact hle) (fun j hj hj2 => ?_)⟩)
      rw [← hbt j (by omega)]
      rcases Nat.eq_or_lt_of_le hj with h | h
      · rw [← h]; exact c1
      · have := (hct (j - pos) (by omega) (by omega)).2
        rw [show pos + (j - pos) = j by omega] at this
        omega
theorem Rowed.stored {w : World} {base g : Nat} {m : Nat} {outs : List ByteArray} (h : Rowed w base (some ⟨g, 0, none⟩) m outs) (hl : outs.length < m) (x : ByteArray) : Rowed (w.setCell ⟨g, outs.length, none⟩ (.string x)) base (some ⟨g, 0, none⟩) m (outs ++ [x]) := by
  obtain ⟨h1, h2⟩ := h
  refine ⟨by simp; omega, ?_⟩
  rcases h2 with ⟨h2, _⟩ | ⟨g', cur, e, hb, hg, hc, ht, hone⟩
  · cases h2
  · obtain rfl : g = g' := by injection e with e; injection e
    refine .inr ⟨g, cur.set outs.length (.string x), rfl, hb, ?_, by simp [hc], ?_, ?_⟩
    · have := heap_setCell_same w g outs.length cur.toArray 9 (.string x) hg
      simpa using this
    · have hlc : outs.length < cur.length := by omega
      rw [List.length_append, List.length_singleton, List.take_succ_eq_append_getElem (by simpa using hlc), List.take_set_of_le (Nat.le_refl _), ht]
      simp
    · intro v hv
      rcases List.mem_or_eq_of_mem_set hv with hv | rfl
      · exact hone v hv
      · rfl
theorem Rowed.cell {w : World} {base g : Nat} {m : Nat} {outs : List ByteArray} (h : Rowed w base (some ⟨g, 0, none⟩) m outs) (j : Nat) (hl : j < m) : base ≤ g ∧ (∃ v, w.cell? ⟨g, j, none⟩ = some v) ∧ w.frozen? ⟨g, j, none⟩ = false := by
  obtain ⟨h1, h2⟩ := h
  rcases h2 with ⟨h2, _⟩ | ⟨g', cur, e, hb, hg, hc, ht, hone⟩
  · cases h2
  · obtain rfl : g = g' := by injection e with e; injection e
    refine ⟨hb, ?_, frozen_of_row w g j _ _ hg⟩
    rw [cell_of_row w g j _ _ (0, 0) hg]
    exact ⟨cur[j]'(by omega), by simp⟩
theorem Rowed.some {w : World} {base : Nat} {A : Option Addr} {m : Nat} {outs : List ByteArray} (h : Rowed w base A m outs) (hm : 0 < m) : ∃ g, A = some ⟨g, 0, none⟩ := by
  rcases h.2 with ⟨_, h2⟩ | ⟨g, _, e, _⟩
  · omega
  · exact ⟨g, e⟩
theorem toList_some (s : ByteArray) (h : s.size ≠ 0) : s.toList.isEmpty = false := by
  cases hs : s.toList with
  | cons x l => rfl
  | nil =>
    have h1 := toList_ne_nil s
    rw [hs] at h1
    have h2 : (ns s) = [] := by
      cases hn : ns s with
      | nil => rfl
      | cons a b => rw [hn] at h1; simp at h1
    have h3 := ns_length s
    rw [h2] at h3
    exact absurd h3.symm h
set_option maxHeartbeats 4000000 in
set_option maxRecDepth 100000 in
theorem spliced_calls (a0 : ByteArray) (w : World) (hbd : a0.size ≤ 1099511627776) (hne : a0.size ≠ 0) :
    Calls Tryd.prog 86 #[.string a0, .slice none 0 0] w fun e w' => ∃ v, e = .returned v ∧ Kd.R Kd.string 9 w' w.heap.size (fun _ => True) v (splTl (ns a0) 0 0) ∧ Below w.heap.size w w' := by
  have hq := toList_some a0 hne
  obtain ⟨S, hS⟩ : ∃ S, a0 ++ (⟨#[36]⟩ : ByteArray) = S := ⟨_, rfl⟩
  have HS := Lib.hid hS
  obtain ⟨RES, hR⟩ : ∃ R, splTl (ns a0) 0 0 = R := ⟨_, rfl⟩
  have HR := Lib.hid hR
  rw [hR]
  have HN := Lib.hid hne
  have hit0 : Hid ((w.iter S 0).heap[w.heap.size]? = some (.stringIter S 0)) := Lib.hid (w.iter_heap S 0)
  have hbl0 : Hid (Below w.heap.size w (w.iter S 0)) := Lib.hid ((Below.refl _ _).alloc (Nat.le_refl _) _)
  have hsz0 : Hid (w.heap.size + 1 ≤ (w.iter S 0).heap.size) := Lib.hid (by simp [World.iter])
  clear hR hne
  go_enter Tryd.func86, Tryd.ntmps86
  go_wp2
  clear hS
  go_loopw [1, 5, 6, 7, 8, 9] (fun d _ _ e i _ wr => ∃ (A : Option Addr) (m n p pos : Nat) (outs : List ByteArray), d = .slice A m m ∧ e = .int .u8 p ∧ i = .int .i64 n ∧ n = outs.length ∧ n ≤ pos ∧ m ≤ 2 * n ∧ p ≤ pos ∧ p ≤ 255 ∧ pos ≤ a0.size + 1 ∧ Hid (wr.heap[w.heap.size]? = some (.stringIter S pos)) ∧ Hid (w.heap.size + 1 ≤ wr.heap.size) ∧ Hid (Below w.heap.size w wr) ∧ Hid (Rowed wr (w.heap.size + 1) A m outs) ∧ Hid (RES = outs ++ splTl (ns a0) p pos)) (fun _ _ _ _ _ _ wr => a0.size + 1 - wr.iterPos w.heap.size)
  case atStart => exact ⟨none, 0, 0, 0, 0, [], rfl, rfl, rfl, rfl, Nat.le_refl _, by omega, by omega, by omega, by omega, hit0, hsz0, hbl0, Lib.hid ⟨Nat.le_refl _, .inl ⟨rfl, rfl⟩⟩, Lib.hid HR.out.symm⟩
  case round =>
    obtain ⟨A, m, n, p, pos, outs, rfl, rfl, rfl, hn, hnp, hm, hp, hp2, hpos, HIT, HSZ, HBL, HROW, HE⟩ := hrel
    have HNN := Lib.hid hn
    clear hn
    have hSz : S.size = a0.size + 1 := by rw [← HS.out, ByteArray.size_append]; rfl
    by_cases hlt : pos < S.size
    · have hnx : ∀ ty, (Instr.next (.pointer (some ⟨w.heap.size, 0, none⟩)) true ty).run Tryd.prog wr = _ := fun ty => Lib.run_next_any_at wr w.heap.size S pos ty HIT.out hlt
      have hfacts := scan_at a0 S HS.out p pos hlt
      have H1 : Hid ((wr.iterAt w.heap.size S (pos + (Utf8.decode S pos).2)).heap[w.heap.size]? = some (.stringIter S (pos + (Utf8.decode S pos).2))) := Lib.hid (Lib.iterAt_heap wr _ S pos _ HIT.out)
      have H2 : Hid (Below w.heap.size w (wr.iterAt w.heap.size S (pos + (Utf8.decode S pos).2))) := Lib.hid (Lib.below_iterAt HBL.out (Nat.le_refl _) _ _)
      have H3 : Hid (Rowed (wr.iterAt w.heap.size S (pos + (Utf8.decode S pos).2)) (w.heap.size + 1) A m outs) := Lib.hid (HROW.out.kept (fun g hg _ => Lib.iterAt_other wr _ g S _ (by omega)))
      have H4 : Hid (w.heap.size + 1 ≤ (wr.iterAt w.heap.size S (pos + (Utf8.decode S pos).2)).heap.size) := Lib.hid (by rw [Lib.iterAt_size]; exact HSZ.out)
      obtain ⟨W, hW⟩ : ∃ W, wr.iterAt w.heap.size S (pos + (Utf8.decode S pos).2) = W := ⟨_, rfl⟩
      rw [hW] at hnx H1 H2 H3 H4
      have Hpos : Hid (wr.iterPos w.heap.size = pos) := Lib.hid (by unfold World.iterPos; rw [HIT.out])
      clear hW HIT HSZ HBL HROW
      obtain ⟨wd, hwd⟩ : ∃ wd, (Utf8.decode S pos).2 = wd := ⟨_, rfl⟩
      obtain ⟨ch, hch⟩ : ∃ ch, ((Utf8.decode S pos).1 : Int) = ch := ⟨_, rfl⟩
      rw [hwd] at hfacts H1
      rw [hch] at hfacts hnx
      clear hwd hch
      rcases hfacts with ⟨t44, hf⟩ | ⟨t44, tl, hf⟩ | ⟨t44, tl, hf⟩
      rotate_left 2
      · have HF := Lib.hid hf
        clear hf hSz
        go_wp2
        go_roundw
        case rel => exact ⟨A, m, n, p, pos + wd, outs, rfl, rfl, rfl, HNN.out, by omega, hm, by omega, hp2, by have := HF.out; omega, H1, H4, H2, H3, Lib.hid (by rw [HE.out, HF.out.2.2])⟩
        case measure =>
          have e1 : W.iterPos w.heap.size = pos + wd := by unfold World.iterPos; rw [H1.out]
          rw [e1, Hpos.out]
          have := HF.out
          omega
      all_goals
        have HF := Lib.hid hf
        clear hf
        obtain ⟨ktr, htr⟩ := trimL (a0.extract p pos) (by rw [ByteArray.size_extract]; omega)
        have htr' : fiberutils_TrimLeft.f ktr (a0.extract p pos) 32 = some (commaPart (ns a0) p pos) := by
          rw [htr, ns_extract, commaPart, List.drop_take]
        have HTR := Lib.hid htr'
        clear htr htr'
        obtain ⟨x, hx⟩ : ∃ x, commaPart (ns a0) p pos = x := ⟨_, rfl⟩
        have HX := Lib.hid hx
        obtain rfl : wd = 1 := HF.out.1
        have HP : Hid (pos ≤ a0.size) := Lib.hid HF.out.2.1
        have hpa : pos ≤ a0.size := HP.out
        have HE2 : Hid (RES = (outs ++ [x]) ++ splTl (ns a0) ((pos + 1) % 256) (pos + 1)) := Lib.hid (by rw [HE.out, HF.out.2.2, hx]; simp)
        rw [hx] at HTR
        clear hx hSz
        by_cases hmn : n < m
        · obtain ⟨g, rfl⟩ := H3.out.some (by omega)
          obtain ⟨hbg, ⟨v0, hc0⟩, hz0⟩ := H3.out.cell n hmn
          have HBG := Lib.hid hbg
          clear hbg
          have H5 : Hid (∀ k, Rowed ((W.drewN k).setCell ⟨g, n, none⟩ (.string x)) (w.heap.size + 1) (some ⟨g, 0, none⟩) m (outs ++ [x])) := Lib.hid (fun k => by rw [HNN.out]; exact Rowed.stored (H3.out.kept (fun _ _ _ => rfl)) (by have := HNN.out; omega) x)
          have H6 : Hid (∀ k, ((W.drewN k).setCell ⟨g, n, none⟩ (.string x)).heap[w.heap.size]? = some (.stringIter S (pos + 1))) := Lib.hid (fun k => by
            rw [Below.heap_setCell _ _ _ _ (by have := HBG.out; show w.heap.size ≠ g; omega)]; exact H1.out)
          have H7 : Hid (∀ k, w.heap.size + 1 ≤ ((W.drewN k).setCell ⟨g, n, none⟩ (.string x)).heap.size) := Lib.hid (fun k => by simp; exact H4.out)
          have H8 : Hid (∀ k, Below w.heap.size w ((W.drewN k).setCell ⟨g, n, none⟩ (.string x))) := Lib.hid (fun k => by
            refine Below.setCell ?_ (by have := HBG.out; show w.heap.size ≤ g; omega) _
            apply pw_below_drewN
            exact H2.out)
          go_wp2_with (go_at_call 102; refine (fiberutils_TrimLeft.calls ktr (a0.extract p pos) 32 x _ HTR.out).mono ?_; rintro e w' ⟨rfl, ⟨nd, rfl⟩⟩)
          go_roundw
          case rel => exact ⟨some ⟨g, 0, none⟩, m, n + 1, (pos + 1) % 256, pos + 1, outs ++ [x], rfl, by go_num, by go_num, by rw [HNN.out]; simp, by omega, by omega, by omega, by omega, by omega, Lib.hid (H6.out nd), Lib.hid (H7.out nd), Lib.hid (H8.out nd), Lib.hid (H5.out nd), HE2⟩
          case measure =>
            have e1 : ((W.drewN nd).setCell ⟨g, n, none⟩ (.string x)).iterPos w.heap.size = pos + 1 := by unfold World.iterPos; rw [H6.out nd]
            rw [e1, Hpos.out]
            omega
        · have hmn2 : m = n := by have := H3.out.1; have := HNN.out; omega
          subst hmn2
          obtain ⟨M, hM⟩ : ∃ M : Nat, M = m + m / 2 + 2 := ⟨_, rfl⟩
          obtain ⟨W', hmk, cur, HC1, hcl, HC2, hgr⟩ := make_strs W m M (w.heap.size + 1) hM (by omega) H4.out
          have HHM := Lib.hid hM
          have hmM : m < M := by omega
          have HMM := Lib.hid (And.intro hmM (show M ≤ 2 * (m + 1) by omega))
          have HGR := Lib.hid hgr
          have HC1' := Lib.hid HC1
          have HCL := Lib.hid hcl
          have HC2' := Lib.hid HC2
          obtain ⟨hold1, hold2⟩ := H3.out.olds HNN.out
          have HO1 := Lib.hid hold1
          have HO2 : Hid (0 < (outs.map Value.string).length → ∃ ad, A = some ad ∧ ∀ j v, (outs.map Value.string)[j]? = some v → W'.cell? (ad.add j) = some v) := Lib.hid (fun hp => by
            obtain ⟨ad, e, hc⟩ := hold2 hp
            exact ⟨ad, e, fun j v hj => World.grownBy.cell hgr (hc j v hj) (by simp)⟩)
          clear hM hgr HC1 hcl HC2 hold1 hold2
          obtain ⟨G, hG⟩ : ∃ G, W.heap.size = G := ⟨_, rfl⟩
          rw [hG] at hmk HC1'
          have HG := Lib.hid hG
          clear hG
          go_wp2_with (first
            | ((with_reducible refine gate_dst (N := 42) rfl ?_)
               refine wpList_copy_splice rfl (.tmp 40) (.tmp 41) 35 35 rfl 9 Tryd.underlying35 (by kernel_rfl) _ _ _ _ _ _ rfl rfl G 0 cur 9 HC1'.out (outs.map Value.string) (by rw [HO1.out]; exact (Nat.min_eq_left (Nat.le_of_lt HMM.out.1)).symm) (fun hp => ⟨rfl, HO2.out hp⟩) (by rw [HO1.out, HCL.out]; have := HMM.out; omega) (fun v hv => by obtain ⟨y, _, rfl⟩ := List.mem_map.1 hv; rfl) G W' (Below.refl _ _) (Nat.le_refl _) ?_
               intro W2 HG2 HB2
               have h2 := rowed_new HG2.out HCL.out HO1.out (Nat.le_of_lt HMM.out.1) HC2'.out (show w.heap.size + 1 ≤ G by have := H4.out; have := HG.out; omega)
               obtain ⟨hbg, ⟨v0, hc0⟩, hz0⟩ := h2.cell m HMM.out.1
               have H2R := Lib.hid h2
               have H2B := Lib.hid HB2
               have HBG := Lib.hid hbg
               clear h2 hbg HB2)
            | (go_at_call 102; refine (fiberutils_TrimLeft.calls ktr (a0.extract p pos) 32 x _ HTR.out).mono ?_; rintro e w' ⟨rfl, ⟨nd, rfl⟩⟩))
          have hGb : w.heap.size + 1 ≤ G := by have := H4.out; have := HG.out; omega
          have hWb : Below w.heap.size w W2 := (H2.out.grown HGR.out (by have := H4.out; omega) (fun k hk => by cases hk)).trans (below_weaken_ (by omega) H2B.out)
          have hit2 : W2.heap[w.heap.size]? = some (.stringIter S (pos + 1)) := by
            rw [H2B.out.block _ (by omega), HGR.out.block _ (by have := H4.out; omega) (by simp)]
            exact H1.out
          have hsz2 : w.heap.size + 1 ≤ W2.heap.size := by
            have h1 := H2B.out.size
            have h2 := HGR.out.size
            have h3 := H4.out
            omega
          have hit3 : ((W2.drewN nd).setCell ⟨G, m, none⟩ (.string x)).heap[w.heap.size]? = some (.stringIter S (pos + 1)) := by
            rw [Below.heap_setCell _ _ _ _ (show w.heap.size ≠ G by omega)]; exact hit2
          go_roundw
          case rel => exact ⟨some ⟨G, 0, none⟩, M, m + 1, (pos + 1) % 256, pos + 1, outs ++ [x], rfl, by go_num, by go_num, by rw [HNN.out]; simp, by omega, HMM.out.2, by omega, by omega, by omega, Lib.hid hit3, Lib.hid (by simp; exact hsz2), Lib.hid (by
            refine Below.setCell ?_ (by show w.heap.size ≤ G; omega) _
            apply pw_below_drewN
            exact hWb), Lib.hid (by
            have hs := Rowed.stored (w := W2.drewN nd) (H2R.out.kept (fun _ _ _ => rfl)) (by have := HMM.out.1; have := HNN.out; omega) x
            rw [← HNN.out] at hs
            exact hs), HE2⟩
          case measure =>
            have e1 : ((W2.drewN nd).setCell ⟨G, m, none⟩ (.string x)).iterPos w.heap.size = pos + 1 := by unfold World.iterPos; rw [hit3]
            rw [e1, Hpos.out]
            omega
    · have hnx : ∀ ty, (Instr.next (.pointer (some ⟨w.heap.size, 0, none⟩)) true ty).run Tryd.prog wr = _ := fun ty => Lib.run_next_end_at wr w.heap.size S pos ty HIT.out hlt
      have HRES : Hid (RES = outs) := Lib.hid (by rw [HE.out, splTl, if_neg (by rw [ns_length]; omega)]; simp)
      clear hSz
      by_cases hmn : n < m
      · obtain ⟨g, rfl⟩ := HROW.out.some (by omega)
        go_wp2
        go_ret
        exact ⟨_, rfl, by rw [HRES.out]; exact Kd.R_lower (HROW.out.own HNN.out (by simp [maxLen]; omega)) (Nat.le_succ _), HBL.out⟩
      · have hmn2 : m = n := by have := HROW.out.1; have := HNN.out; omega
        subst hmn2
        go_wp2
        go_ret
        exact ⟨_, rfl, by rw [HRES.out]; exact Kd.R_lower (HROW.out.own HNN.out (by simp [maxLen]; omega)) (Nat.le_succ _), HBL.out⟩
set_option maxHeartbeats 4000000 in
theorem spliced_none (w : World) : Calls Tryd.prog 86 #[.string ByteArray.empty, .slice none 0 0] w fun e w' => e = .returned (.slice none 0 0) ∧ w' = w := by
  go_enter Tryd.func86, Tryd.ntmps86
  go_wp2
  go_ret
  exact ⟨rfl, rfl⟩
theorem list_calls (a0 : ByteArray) (w : World) (hbd : a0.size ≤ 1099511627776) :
    Calls Tryd.prog 61 #[.string a0] w fun e w' => ∃ v, e = .returned v ∧ Kd.R Kd.string 9 w' w.heap.size (fun _ => True) v (if a0.size = 0 then [] else splTl (ns a0) 0 0) ∧ Below w.heap.size w w' := by
  by_cases h0 : a0.size = 0
  · rw [if_pos h0]
    obtain rfl : a0 = ByteArray.empty := by
      apply ns_inj
      have : (ns a0).length = 0 := by rw [ns_length]; exact h0
      rw [List.eq_nil_of_length_eq_zero this]
      rfl
    go_enter Tryd.func61, Tryd.ntmps61
    go_wp2_with (go_at_call 86; refine (spliced_none _).mono ?_; rintro e w' ⟨rfl, rfl⟩)
    go_ret
    exact ⟨_, rfl, Kd.R_nil _ _ _ _ _, Below.refl _ _⟩
  · rw [if_neg h0]
    go_enter Tryd.func61, Tryd.ntmps61
    go_wp2_with (go_at_call 86; refine (spliced_calls a0 _ hbd h0).mono ?_; rintro e w' ⟨v, rfl, hr, hb⟩)
    go_ret
    exact ⟨_, rfl, hr, hb⟩
theorem two_cells {w w' : World} {n : Nat} {T1 T2 : TypeId} {v1 v2 : Value} {α : Type} {d : Kd α} {e : Nat} {v : Value} {xs : List α} (hn : w.heap.size = n) (hb : Below ((w.alloc (.cells #[v1] T1)).alloc (.cells #[v2] T2)).heap.size ((w.alloc (.cells #[v1] T1)).alloc (.cells #[v2] T2)) w')
    (hr : d.R e w' ((w.alloc (.cells #[v1] T1)).alloc (.cells #[v2] T2)).heap.size (fun _ => True) v xs) :
    ((w'.cell? ⟨n, 0, none⟩ = some v1 ∧ w'.frozen? ⟨n, 0, none⟩ = false) ∧ (w'.cell? ⟨n + 1, 0, none⟩ = some v2 ∧ w'.frozen? ⟨n + 1, 0, none⟩ = false)) ∧
    (∀ u1 u2, d.R e ((w'.setCell ⟨n, 0, none⟩ u1).setCell ⟨n + 1, 0, none⟩ u2) w.heap.size (fun _ => True) v xs) ∧ (∀ u1 u2, Below w.heap.size w ((w'.setCell ⟨n, 0, none⟩ u1).setCell ⟨n + 1, 0, none⟩ u2)) := by
  subst hn
  have hs : ((w.alloc (.cells #[v1] T1)).alloc (.cells #[v2] T2)).heap.size = w.heap.size + 2 := by simp
  rw [hs] at hb hr
  have h1 : w'.heap[w.heap.size]? = some (.cells #[v1] T1 (0, 0)) := by
    rw [hb.block _ (by omega)]
    exact blk_alloc (heap_alloc_new w _) _
  have h2 : w'.heap[w.heap.size + 1]? = some (.cells #[v2] T2 (0, 0)) := by
    rw [hb.block _ (by omega)]
    have := heap_alloc_new (w.alloc (.cells #[v1] T1)) (.cells #[v2] T2)
    simpa using this
  refine ⟨⟨⟨?_, frozen_of_row _ _ 0 _ _ h1⟩, ⟨?_, frozen_of_row _ _ 0 _ _ h2⟩⟩, fun u1 u2 => ?_, fun u1 u2 => ?_⟩
  · rw [cell_of_row _ _ 0 _ _ (0, 0) h1]; rfl
  · rw [cell_of_row _ _ 0 _ _ (0, 0) h2]; rfl
  · refine Kd.R_lower (base := w.heap.size + 2) ?_ (by omega)
    have hr2 := Kd.R_bound hr
    refine Kd.R_mono (Kd.R_far (p := ⟨w.heap.size + 1, 0, none⟩) (Kd.R_far (p := ⟨w.heap.size, 0, none⟩) hr2 (fun k hk => ?_) u1) (fun k hk => ?_) u2) (fun _ _ => trivial)
    · have := hk.2.1; show k ≠ w.heap.size; omega
    · have := hk.2.1; show k ≠ w.heap.size + 1; omega
  · refine Below.setCell (Below.setCell ?_ (show w.heap.size ≤ w.heap.size from Nat.le_refl _) _) (show w.heap.size ≤ w.heap.size + 1 by omega) _
    have h0 : Below w.heap.size w ((w.alloc (.cells #[v1] T1)).alloc (.cells #[v2] T2)) := ((Below.refl _ _).alloc (Nat.le_refl _) _).alloc (by simp) _
    exact h0.trans (below_weaken_ (by omega) hb)
theorem spl1_idle (p q : Addr) (w : World) :
    CallsD Tryd.prog 60 #[.pointer (some p), .pointer (some q)] .returning w fun e u' w' => e = .returned (.tuple #[]) ∧ u' = .returning ∧ w' = w := by
  refine callsD_of_wpS Tryd.func60 rfl fun c₀ cs hu => ?_
  apply wpS_seq
  apply wpS_region
  simp [wpOpsS, go_sem, recoverD, hu, Tryd.ntmps60, Exit.thenS]
  refine wpS_cond (t := false) (by simp [Act.eval, Array.replicate]) ?_
  simp only [Bool.false_eq_true, if_false]
  refine wpS_of_wp (wp_skip ?_)
  cases c₀
  simp_all [bodyPostS, results, Tryd.results60]
set_option maxHeartbeats 4000000 in
theorem impl_Spliced.calls (a0 : ByteArray) (r1 : List ByteArray) (r2 : Bool) (w : World) (h : impl_Spliced.f a0 = some (r1, r2)) :
    Calls Tryd.prog 27 #[.string a0] w fun e w' => ∃ v0_ : Value, e = .returned (.tuple #[v0_, .bool r2]) ∧ Kd.R Kd.string 9 w' w.heap.size (fun _ => True) v0_ r1 ∧ Below w.heap.size w w' := by
  unfold impl_Spliced.f at h
  by_cases hbd : a0.size ≤ 1099511627776
  · rw [if_pos hbd] at h
    obtain ⟨rfl, rfl⟩ := Prod.mk.inj (Option.some.inj h)
    obtain ⟨RES, hR⟩ : ∃ R, (if a0.size = 0 then [] else splTl (ns a0) 0 0) = R := ⟨_, rfl⟩
    have hcl := list_calls a0
    rw [hR] at hcl ⊢
    clear hR h
    have hmf : ∀ (fn : Fn) (first cap : Array Value) (w : World), (Instr.makeFunc fn first cap).run Tryd.prog w = .ok (.func fn first cap) w := fun _ _ _ _ => rfl
    go_enter_defers Tryd.func27, Tryd.ntmps27
    go_wp2_with (
      go_at_call 61
      refine (hcl _ hbd).mono ?_
      rintro e w' ⟨v, rfl, hr, hb⟩
      obtain ⟨A, c, rfl, hc⟩ := hr.2.slice_
      obtain ⟨⟨b1, b2⟩, hrr, hbl⟩ := two_cells (w := w) rfl hb hr
      have HRR := Lib.hid hrr
      have HBL := Lib.hid hbl
      obtain ⟨c1, z1⟩ := b1
      obtain ⟨c2, z2⟩ := b2
      clear hr hb hrr hbl)
    refine leaves_cons (f := 60) (args := #[.pointer (some ⟨w.heap.size, 0, none⟩), .pointer (some ⟨w.heap.size + 1, 0, none⟩)]) (by simp) (by simp [go_sem]) ?_
    refine (spl1_idle ⟨w.heap.size, 0, none⟩ ⟨w.heap.size + 1, 0, none⟩ _).mono ?_
    rintro e u' w'' ⟨rfl, rfl, rfl⟩
    have hfin := HRR.out (.slice A RES.length c) (.bool true)
    have hfinb := HBL.out (.slice A RES.length c) (.bool true)
    simp [Leaves, settle, results, Tryd.results27, go_sem, c1, c2]
    exact ⟨hfin, hfinb⟩
  · rw [if_neg hbd] at h
    cases h
end Go.Proofs.YtgmjaggkiifdjaaDoor.Given
