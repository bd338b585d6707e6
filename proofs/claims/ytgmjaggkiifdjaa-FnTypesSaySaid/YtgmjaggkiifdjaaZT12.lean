/- Texts of this claim, one behind the other (merged by wip/prune.py of this repo, without what the proof does not use): GIndexByte, GRanges, LSpecWords, LSpecPar, GSpecMatch, GSpecMatchF, LSpecSays. -/
import Derived.Test.YtgmjaggkiifdjaaZT2
import Derived.Test.YtgmjaggkiifdjaaZT3
import Derived.Test.YtgmjaggkiifdjaaZT4
import Derived.Test.YtgmjaggkiifdjaaZT5
import Derived.Test.YtgmjaggkiifdjaaZT6
import Derived.Test.YtgmjaggkiifdjaaZT7
import Derived.Test.YtgmjaggkiifdjaaZT10
import Derived.Test.YtgmjaggkiifdjaaZT11
import Derived.Below
import Derived.BigQuiet
import Derived.Deep.LoopGhost
import Derived.Deep.QuietTactic
import Derived.KernelRfl
import Derived.Laws.BytesArg
import Derived.Laws.OwnMore
import Derived.Laws.RangeAny
import Derived.Laws.RangeString
import Derived.Laws.Slices
import Derived.Lib.Bytealg
import Derived.Lib.ConvBytes
import Derived.Lib.Hide
import Derived.Lib.TrimU
import Derived.Outline
import Derived.OwnWalk
import Derived.RowKit3
import Derived.Tactics
import Derived.Test.YtgmjaggkiifdjaaProg
import Derived.WalkKit
import Derived.WalkLawsBesides
import Derived.WalkMore
import Derived.WalkSpells
import Derived.WideLaws
set_option linter.unusedVariables false
set_option linter.unusedSimpArgs false
namespace Go.Proofs.Ytgmjaggkiifdjaa.Given
open Go.RowKit Go.Proofs.YtgmjaggkiifdjaaW.PrintWords Go.Proofs.YtgmjaggkiifdjaaW.PrintLast Go.Proofs.YtgmjaggkiifdjaaW.PrintMore Go.Proofs.Ytgmjaggkiifdjaa.Base Go.Proofs.Ytgmjaggkiifdjaa.Gv
def idx : List Int → Int → Int
  | [], _ => -1
  | x :: l, c => if x = c then 0 else if idx l c = -1 then -1 else idx l c + 1
theorem idx_eq (l : List UInt8) (c : Int) (h0 : 0 ≤ c) (h1 : c ≤ 255) : Lib.indexByte l c.toNat.toUInt8 = idx (l.map fun b => (b.toNat : Int)) c := by
  induction l with
  | nil => rfl
  | cons b l ih =>
    have hb : (b == c.toNat.toUInt8) = decide ((b.toNat : Int) = c) := by
      rw [Bool.eq_iff_iff, beq_iff_eq, decide_eq_true_eq, ← UInt8.toNat_inj]
      have : c.toNat.toUInt8.toNat = c.toNat := by
        rw [Nat.toUInt8_eq, UInt8.toNat_ofNat']; omega
      rw [this]; omega
    simp only [Lib.indexByte, idx, List.map_cons, hb, ih, decide_eq_true_eq, beq_iff_eq]
def strings_IndexByte.f (a0 : ByteArray) (a1 : Int) : Option Int := some (Lib.indexByte a0.data.toList a1.toNat.toUInt8)
theorem strings_IndexByte.is (a0 : ByteArray) (a1 : Int) (h0 : 0 ≤ a1) (h1 : a1 ≤ 255) : strings_IndexByte.f a0 a1 = some (idx (ns a0) a1) := by
  unfold strings_IndexByte.f
  rw [idx_eq _ _ h0 h1]; rfl
set_option maxHeartbeats 1000000 in
set_option maxRecDepth 100000 in
theorem strings_IndexByte.calls (a0 : ByteArray) (a1 : Int) (r : Int) (w : World) (h : strings_IndexByte.f a0 a1 = some r) :
    Calls Try.prog 48 #[.string a0, .int .u8 a1] w fun e w' => e = .returned (.int .i64 r) ∧ Drawn0 w w' := by
  obtain rfl : Lib.indexByte a0.data.toList a1.toNat.toUInt8 = r := Option.some.inj h
  clear h
  have inner : Calls Try.prog 55 #[.string a0, .int .u8 a1] w fun e w' => e = .returned (.int .i64 (Lib.indexByte a0.data.toList a1.toNat.toUInt8)) ∧ w' = w := by
    go_enter Try.func55, Try.ntmps55
    go_wp2
    rw [run_callFunc_extern Try.func57 (by kernel_rfl) (by kernel_rfl) (by kernel_rfl) (e := Extern.BytealgIndexByte.indexByte) (by kernel_rfl), Lib.run_indexByteString]
    simp only [Result.andThen]
    rw [Oper.upon_value]
    go_wp2
    go_ret
    exact ⟨rfl, rfl⟩
  go_enter Try.func48, Try.ntmps48
  go_wp2_with (go_at_call 55; refine inner.mono ?_; rintro e w' ⟨rfl, rfl⟩)
  go_ret
  exact ⟨rfl, Drawn0.refl _⟩
open Go.Proofs.Ytgmjaggkiifdjaa.QA
theorem idx_rng (l : List Int) (c : Int) : -1 ≤ idx l c ∧ idx l c < l.length := by
  induction l with
  | nil => simp [idx]
  | cons x l ih =>
    unfold idx
    rw [List.length_cons]
    split
    · omega
    · split <;> omega
def scanQ : Nat → Bool → List Int → Nat
  | _, _, [] => 0
  | q, esc, c :: r =>
    if c = 44 then (if q % 2 = 0 then 0 else 1 + scanQ q esc r)
    else if c = 34 then 1 + scanQ (if esc = true then q else q + 1) esc r
    else if c = 92 then 1 + scanQ q (if q % 2 = 1 then !esc else esc) r
    else 1 + scanQ q esc r
def cutAt (dq : Bool) (h : List Int) : Nat := if dq = true then scanQ 0 false h else if idx h 44 = -1 then h.length else (idx h 44).toNat
def rangesF (dq : Bool) : Nat → List Int → List (List Int)
  | 0, _ => []
  | f + 1, h => if h.length = 0 then [] else (ltrim h).take (cutAt dq (ltrim h)) :: (if (ltrim h).length ≤ cutAt dq (ltrim h) then [] else rangesF dq f ((ltrim h).drop (cutAt dq (ltrim h) + 1)))
def rangesOf (xs : List Int) : List ByteArray := (rangesF (decide (idx xs 34 ≠ -1)) xs.length xs).map strOfNums
def impl_MediaRanges.f (a0 : ByteArray) : Option (List ByteArray) := if a0.size ≤ 1099511627776 then some (rangesOf (ns a0)) else none
theorem tl_nil (s : ByteArray) : s.toList = ([] : List UInt8) ↔ s.size = 0 := by
  rw [Lib.toList_data, Lib.size_eq]
  exact List.length_eq_zero_iff.symm
theorem place_from (s : ByteArray) (c : Int) (hs : s.size ≤ 140737488351232) (d : Nat) : ∀ i : Nat, i + d = s.size → Ev (fun k => spec_place.l0 k s c (s.size : Int) (i : Int)) (if idx ((ns s).drop i) c = -1 then -1 else (i : Int) + idx ((ns s).drop i) c) := by
  induction d with
  | zero =>
    intro i hi
    refine Ev.step (f := fun _ => some (-1)) (fun k => ?_) (Ev.val ?_)
    · simp only [spec_place.l0]; rw [if_neg (by omega)]
    · rw [List.drop_eq_nil_of_le (by rw [ns_length]; omega)]; rfl
  | succ d ih =>
    intro i hi
    have hlt : i < (ns s).length := by rw [ns_length]; omega
    have hb : bt s (i : Int) = (ns s)[i] := by rw [bt_ns, List.getD_eq_getElem?_getD, List.getElem?_eq_getElem hlt]; rfl
    refine Ev.step (f := fun k => if (ns s)[i] = c then some (i : Int) else spec_place.l0 k s c (s.size : Int) ((i + 1 : Nat) : Int)) (fun k => ?_) ?_
    · simp only [spec_place.l0]
      rw [if_pos (by omega), if_pos (by omega), if_pos (by omega), hb, wrap_add (by omega) (by omega)]
      rfl
    · rw [List.drop_eq_getElem_cons hlt, idx]
      have hr := idx_rng ((ns s).drop (i + 1)) c
      refine Ev.ite (fun h => Ev.val ?_) (fun h => ?_)
      · rw [if_pos h, if_neg (by decide)]; omega
      · rw [if_neg h]
        have := ih (i + 1) (by omega)
        by_cases g : idx ((ns s).drop (i + 1)) c = -1
        · rw [if_pos g] at this
          rw [if_pos g, if_pos rfl]
          exact this
        · rw [if_neg g] at this
          rw [if_neg g, if_neg (by omega), show (i : Int) + (idx ((ns s).drop (i + 1)) c + 1) = ((i + 1 : Nat) : Int) + idx ((ns s).drop (i + 1)) c by omega]
          exact this
theorem place_ends (s : ByteArray) (c : Int) (hs : s.size ≤ 140737488351232) : Ev (fun k => spec_place.f k s c) (idx (ns s) c) := by
  have h := place_from s c hs s.size 0 (by omega)
  rw [List.drop_zero] at h
  split at h
  · rename_i g; rw [g]; exact h
  · rw [show ((0 : Nat) : Int) + idx (ns s) c = idx (ns s) c by omega] at h; exact h
theorem idx_none {l : List Int} {c : Int} : idx l c = -1 ↔ c ∉ l := by
  induction l with
  | nil => simp [idx]
  | cons x l ih =>
    have hr := idx_rng l c
    rw [idx, List.mem_cons]
    by_cases h : x = c
    · rw [if_pos h]; simp [h]
    · rw [if_neg h]
      by_cases g : idx l c = -1
      · rw [if_pos g]; simp [Ne.symm h, ih.1 g]
      · rw [if_neg g]
        refine ⟨fun e => by omega, fun e => absurd (ih.2 (fun m => e (.inr m))) g⟩
theorem head_ns {s : ByteArray} (h : s.size ≠ 0) : ∃ c r, ns s = c :: r ∧ bt s 0 = c ∧ ns (s.extract 1 s.size) = r := by
  cases e : ns s with
  | nil => have := ns_length s; rw [e] at this; simp at this; omega
  | cons c r => exact ⟨c, r, rfl, by rw [show (0 : Int) = ((0 : Nat) : Int) from rfl, bt_ns, e]; rfl, by rw [ns_from, e]; rfl⟩
theorem gap_ends : ∀ (n : Nat) (s : ByteArray), s.size ≤ n → 9 ∉ ns s → ∃ t, Ev (fun k => spec_gap.f k s) t ∧ ns t = ltrim (ns s)
  | 0, s, hn, h9 => ⟨s, by
      simp only [spec_gap.f]
      refine Ev.step (f := fun _ => some s) (fun k => ?_) (Ev.now _)
      rw [spec_gap.l0, if_pos ((tl_nil s).2 (by omega))], by
      have : ns s = [] := List.length_eq_zero_iff.1 (by rw [ns_length]; omega)
      rw [this]; rfl⟩
  | n + 1, s, hn, h9 => by
    by_cases h0 : s.size = 0
    · refine ⟨s, ?_, ?_⟩
      · simp only [spec_gap.f]
        refine Ev.step (f := fun _ => some s) (fun k => ?_) (Ev.now _)
        rw [spec_gap.l0, if_pos ((tl_nil s).2 h0)]
      · have : ns s = [] := List.length_eq_zero_iff.1 (by rw [ns_length]; omega)
        rw [this]; rfl
    · obtain ⟨c, r, e, hb, hx⟩ := head_ns h0
      have h9' : c ≠ 9 := fun g => h9 (by rw [e, g]; exact List.mem_cons_self ..)
      by_cases h32 : c = 32
      · obtain ⟨t, ht, hn2⟩ := gap_ends n (s.extract 1 s.size) (by rw [ByteArray.size_extract]; omega) (by rw [hx]; exact fun g => h9 (by rw [e]; exact List.mem_cons_of_mem _ g))
        refine ⟨t, ?_, ?_⟩
        · simp only [spec_gap.f] at ht ⊢
          refine Ev.step (fun k => ?_) ht
          rw [spec_gap.l0, if_neg (fun g => h0 ((tl_nil s).1 g)), if_pos (by omega), hb, if_pos h32, if_pos (by omega)]
        · rw [hn2, hx, e, h32]; unfold ltrim; rw [List.dropWhile_cons_of_pos (by simp)]
      · refine ⟨s, ?_, ?_⟩
        · simp only [spec_gap.f]
          refine Ev.step (f := fun _ => some s) (fun k => ?_) (Ev.now _)
          rw [spec_gap.l0, if_neg (fun g => h0 ((tl_nil s).1 g)), if_pos (by omega), hb, if_neg h32, if_neg h9']
        · rw [e]; unfold ltrim; rw [List.dropWhile_cons_of_neg (by simp [h32])]
theorem field_all : ∀ n : Fin 256, spec_FieldByte.f 30 ((n.val : Nat) : Int) = some (tokB ((n.val : Nat) : Int)) := by decide +kernel
theorem field_ends (c : Int) (h0 : 0 ≤ c) (h1 : c ≤ 255) : Ev (fun k => spec_FieldByte.f k c) (tokB c) := by
  obtain ⟨n, rfl⟩ := Int.eq_ofNat_of_zero_le h0
  exact Ev.of (spec_FieldByte.mono _) (field_all ⟨n, by omega⟩)
def foldB (c : Int) : Int := if c ≥ 65 ∧ c ≤ 90 then c + 32 else c
theorem fold_is (c : Int) (h0 : 0 ≤ c) (h1 : c ≤ 255) : spec_fold.f c = some (foldB c) := by
  unfold spec_fold.f foldB
  by_cases a : c ≥ 65
  · by_cases b : c ≤ 90
    · rw [if_pos a, if_pos b, if_pos ⟨a, b⟩]; congr 1; omega
    · rw [if_pos a, if_neg b, if_neg (fun g => b g.2)]
  · rw [if_neg a, if_neg (fun g => a g.1)]
theorem fold_up : ∀ m n : Fin 256, foldB ((m.val : Nat) : Int) = foldB ((n.val : Nat) : Int) ↔ Gv.up ((m.val : Nat) : Int) = Gv.up ((n.val : Nat) : Int) := by decide +kernel
theorem fold_up' (a b : Int) (ha : 0 ≤ a ∧ a ≤ 255) (hb : 0 ≤ b ∧ b ≤ 255) : foldB a = foldB b ↔ Gv.up a = Gv.up b := by
  obtain ⟨m, rfl⟩ := Int.eq_ofNat_of_zero_le ha.1
  obtain ⟨n, rfl⟩ := Int.eq_ofNat_of_zero_le hb.1
  exact fold_up ⟨m, by omega⟩ ⟨n, by omega⟩
theorem same_from (a b : ByteArray) (hab : a.size = b.size) (hs : a.size ≤ 140737488351232) (d : Nat) : ∀ i : Nat, i + d = a.size → Ev (fun k => spec_same.l0 k a b (a.size : Int) (i : Int)) (decide (((ns a).drop i).map Gv.up = ((ns b).drop i).map Gv.up)) := by
  induction d with
  | zero =>
    intro i hi
    refine Ev.step (f := fun _ => some true) (fun k => ?_) (Ev.val ?_)
    · simp only [spec_same.l0]; rw [if_neg (by omega)]
    · rw [List.drop_eq_nil_of_le (by rw [ns_length]; omega), List.drop_eq_nil_of_le (by rw [ns_length]; omega)]; rfl
  | succ d ih =>
    intro i hi
    have hlt : i < (ns a).length := by rw [ns_length]; omega
    have hlt' : i < (ns b).length := by rw [ns_length]; omega
    have ha : bt a (i : Int) = (ns a)[i] := by rw [bt_ns, List.getD_eq_getElem?_getD, List.getElem?_eq_getElem hlt]; rfl
    have hb : bt b (i : Int) = (ns b)[i] := by rw [bt_ns, List.getD_eq_getElem?_getD, List.getElem?_eq_getElem hlt']; rfl
    have ra := ns_range a _ (List.getElem_mem hlt)
    have rb := ns_range b _ (List.getElem_mem hlt')
    refine Ev.step (f := fun k => if foldB (ns a)[i] = foldB (ns b)[i] then spec_same.l0 k a b (a.size : Int) ((i + 1 : Nat) : Int) else some false) (fun k => ?_) ?_
    · simp only [spec_same.l0]
      rw [if_pos (by omega), if_pos (by omega), if_pos (by omega), ha, hb, fold_is _ ra.1 ra.2, Option.bind_some, if_pos (by omega), fold_is _ rb.1 rb.2, Option.bind_some, wrap_add (by omega) (by omega)]
      rfl
    · rw [List.drop_eq_getElem_cons hlt, List.drop_eq_getElem_cons hlt', List.map_cons, List.map_cons]
      have hf := fold_up' _ _ ra rb
      refine Ev.ite (fun h => ?_) (fun h => Ev.val ?_)
      · have e : decide ((Gv.up (ns a)[i] :: ((ns a).drop (i + 1)).map Gv.up) = (Gv.up (ns b)[i] :: ((ns b).drop (i + 1)).map Gv.up)) = decide (((ns a).drop (i + 1)).map Gv.up = ((ns b).drop (i + 1)).map Gv.up) := by
          rw [hf.1 h]; exact decide_eq_decide.2 ⟨fun g => (List.cons.inj g).2, fun g => by rw [g]⟩
        rw [e]
        exact ih (i + 1) (by omega)
      · exact (decide_eq_false (fun g => h (hf.2 (List.cons.inj g).1))).symm
theorem same_ends (a b : ByteArray) (hs : a.size ≤ 140737488351232) : Ev (fun k => spec_same.f k a b) (eqFold a b) := by
  unfold eqFold
  simp only [spec_same.f]
  refine Ev.ite (fun h => ?_) (fun h => Ev.val ?_)
  · have := same_from a b (by omega) hs a.size 0 (by omega)
    simpa using this
  · refine (decide_eq_false (fun g => h ?_)).symm
    have := congrArg List.length g
    rw [List.length_map, List.length_map, ns_length, ns_length] at this
    omega
theorem eqFold_symm (a b : ByteArray) : eqFold a b = eqFold b a := by unfold eqFold; exact decide_eq_decide.2 ⟨Eq.symm, Eq.symm⟩
abbrev Sp := S38
def toSp (p : ByteArray × ByteArray) : Sp := ⟨p.1, p.2⟩
def valP (xs : List Int) : Option (List Int × List Int) :=
  if xs.length = 0 then none
  else if xs.getD 0 0 = 34 then
    (if 1 + quoN false (xs.drop 1) < xs.length then some ((xs.drop 1).take (quoN false (xs.drop 1)), xs.drop (1 + quoN false (xs.drop 1) + 1)) else none)
  else if tokN xs = 0 then none else some (xs.take (tokN xs), xs.drop (tokN xs))
theorem oneU_val {u : List Int} {N : Nat} (hN : tokN u = N) (h0 : N ≠ 0) (h1 : N < u.length) (h2 : u.getD N 0 = 61) : oneU u = (valP (u.drop (N + 1))).map fun p => (u.take N, p.1, p.2) := by
  have hl : (u.drop (N + 1)).length = u.length - (N + 1) := List.length_drop ..
  by_cases h3 : u.length ≤ N + 1
  · rw [oneU_eq hN (.inl h3), valP, if_pos (by omega)]; rfl
  · have hg : (u.drop (N + 1)).getD 0 0 = u.getD (N + 1) 0 := by rw [getD_drop, Nat.add_zero]
    have hd : (u.drop (N + 1)).drop 1 = u.drop (N + 2) := by rw [List.drop_drop]
    unfold valP
    rw [if_neg (by omega), hg, hd]
    by_cases h4 : u.getD (N + 1) 0 = 34
    · obtain ⟨Q, hQ⟩ : ∃ Q, quoN false (u.drop (N + 2)) = Q := ⟨_, rfl⟩
      rw [oneU_q hN h0 (by omega) h2 h4 hQ, if_pos h4, hQ]
      by_cases h5 : N + 2 + Q < u.length
      · rw [if_pos h5, if_pos (by omega), List.drop_drop]
        simp only [Option.map_some]
        rw [show N + 2 + Q + 1 = N + 1 + (1 + Q + 1) by omega]
      · rw [if_neg h5, if_neg (by omega)]; rfl
    · obtain ⟨M, hM⟩ : ∃ M, tokN (u.drop (N + 1)) = M := ⟨_, rfl⟩
      rw [oneU_t hN h0 (by omega) h2 h4 hM, if_neg h4, hM]
      by_cases h5 : M = 0
      · rw [if_pos h5, if_pos h5]; rfl
      · rw [if_neg h5, if_neg h5, List.drop_drop]; rfl
theorem quo_all {l : List Int} : ∀ e, 34 ∉ l → quoN e l = l.length := by
  induction l with
  | nil => intro e _; rfl
  | cons c r ih =>
    intro e h
    rw [quoN, if_neg (fun g => h (by rw [g.1]; exact List.mem_cons_self ..)), ih _ (fun g => h (List.mem_cons_of_mem _ g)), List.length_cons]
    omega
theorem quo_idx {l : List Int} : ∀ p : Nat, idx l 34 = (p : Int) → 92 ∉ l.take p → quoN false l = p := by
  induction l with
  | nil => intro p h; exact absurd h (by simp only [idx]; omega)
  | cons c r ih =>
    intro p h h92
    rw [idx] at h
    by_cases hc : c = 34
    · rw [if_pos hc] at h
      rw [quoN, if_pos ⟨hc, rfl⟩]; omega
    · rw [if_neg hc] at h
      have hr := idx_rng r 34
      by_cases g : idx r 34 = -1
      · rw [if_pos g] at h; omega
      · rw [if_neg g] at h
        obtain ⟨m, rfl⟩ : ∃ m, p = m + 1 := ⟨p - 1, by omega⟩
        rw [List.take_succ_cons, List.mem_cons, not_or] at h92
        have e : (c == 92 && !false) = false := by simp; exact fun g => h92.1 g.symm
        rw [quoN, if_neg (fun g => hc g.1), e, ih m (by omega) h92.2]; omega
theorem tok_from (s : ByteArray) (hs : s.size ≤ 140737488351232) (i : Nat) (hi : i < s.size) : tokN ((ns s).drop i) = if tokB (bt s (i : Int)) = true then 1 + tokN ((ns s).drop (i + 1)) else 0 := by
  have hlt : i < (ns s).length := by rw [ns_length]; omega
  rw [List.drop_eq_getElem_cons hlt, tokN, bt_ns, List.getD_eq_getElem?_getD, List.getElem?_eq_getElem hlt]; rfl
theorem bt_rng (s : ByteArray) (i : Nat) (hi : i < s.size) : 0 ≤ bt s (i : Int) ∧ bt s (i : Int) ≤ 255 := by
  have hlt : i < (ns s).length := by rw [ns_length]; omega
  have : bt s (i : Int) = (ns s)[i] := by rw [bt_ns, List.getD_eq_getElem?_getD, List.getElem?_eq_getElem hlt]; rfl
  rw [this]; exact ns_range s _ (List.getElem_mem hlt)
theorem ex_zero (s : ByteArray) (n : Nat) : ns (s.extract 0 n) = (ns s).take n := by rw [ns_extract, List.drop_zero, Nat.sub_zero]
theorem val_from (s : ByteArray) (hs : s.size ≤ 140737488351232) (N : Nat) (hN : tokN (ns s) = N) (hNs : N ≤ s.size) : ∀ d i : Nat, i + d = s.size → i + tokN ((ns s).drop i) = N →
    Ev (fun k => spec_value.l0 k s (i : Int)) (if N = 0 then ((⟨#[]⟩ : ByteArray), (⟨#[]⟩ : ByteArray), (0 : Int)) else (s.extract 0 N, s.extract N s.size, 1)) := by
  intro d
  induction d with
  | zero =>
    intro i hi ht
    have e0 : (ns s).drop i = [] := List.drop_eq_nil_of_le (by rw [ns_length]; omega)
    rw [e0] at ht
    obtain rfl : i = N := by simpa [tokN] using ht
    refine Ev.step (f := fun _ => some _) (fun k => ?_) (Ev.now _)
    rw [spec_value.l0, if_neg (by omega)]
    by_cases h0 : i = 0
    · rw [if_pos (by omega), if_pos h0]
    · rw [if_neg (by omega), if_pos (by omega), if_pos (by omega), if_neg h0, Int.toNat_natCast]
  | succ d ih =>
    intro i hi ht
    have hb := bt_rng s i (by omega)
    rw [tok_from s hs i (by omega)] at ht
    refine Ev.step (f := fun k => (spec_FieldByte.f k (bt s (i : Int))).bind fun t => if t = true then spec_value.l0 k s ((i + 1 : Nat) : Int) else (if (i : Int) = 0 then (some ((⟨#[]⟩ : ByteArray), (⟨#[]⟩ : ByteArray), 0)) else (if (i : Int) ≤ (s.size : Int) then (some (s.extract 0 i, s.extract i s.size, 1)) else (none)))) (fun k => ?_) (Ev.bind (field_ends _ hb.1 hb.2) ?_)
    · rw [spec_value.l0, if_pos (by omega), if_pos (by omega), wrap_add (by omega) (by omega), Int.toNat_natCast]
      rfl
    · refine Ev.ite (fun h => ?_) (fun h => ?_)
      · rw [if_pos h] at ht
        exact ih (i + 1) (by omega) (by omega)
      · rw [if_neg h] at ht
        obtain rfl : i = N := by omega
        by_cases h0 : i = 0
        · refine Ev.if_true (by omega) (Ev.val (by rw [if_pos h0]))
        · refine Ev.if_false (by omega) (Ev.if_true (by omega) (Ev.val (by rw [if_neg h0])))
theorem value_ends (s : ByteArray) (hs : s.size ≤ 1099511627776) : ∃ t, Ev (fun k => spec_value.f k s) t ∧ (t.2.2 = 2 ∨ (t.2.2 = 0 ∧ valP (ns s) = none) ∨ (t.2.2 = 1 ∧ valP (ns s) = some (ns t.1, ns t.2.1))) := by
  have hl := ns_length s
  by_cases h0 : s.size = 0
  · refine ⟨((⟨#[]⟩ : ByteArray), (⟨#[]⟩ : ByteArray), 0), ?_, .inr (.inl ⟨rfl, by rw [valP, if_pos (by omega)]⟩)⟩
    simp only [spec_value.f]
    refine Ev.if_true ((tl_nil s).2 h0) (Ev.step (f := fun k => spec_value.l0 k s 0) (fun k => by rw [spec_value.j0, if_neg (by simp)]) ?_)
    have e : ns s = [] := List.length_eq_zero_iff.1 (by omega)
    have := val_from s (by omega) 0 (by rw [e]; rfl) (by omega) 0 0 (by omega) (by rw [e]; rfl)
    rw [if_pos rfl] at this
    exact this
  · obtain ⟨c, r, e, hb, hx⟩ := head_ns h0
    have hg : (ns s).getD 0 0 = c := by rw [e]; rfl
    have hd : (ns s).drop 1 = r := by rw [e]; rfl
    by_cases h34 : c = 34
    · have hv : valP (ns s) = if 1 + quoN false r < (ns s).length then some (r.take (quoN false r), (ns s).drop (1 + quoN false r + 1)) else none := by
        unfold valP; rw [if_neg (by omega), hg, if_pos h34, hd]
      have hj : ∀ (t : ByteArray × ByteArray × Int), Ev (fun k => ((spec_place.f k (s.extract 1 s.size) 34).bind fun t155 => (if t155 < 0 then (some ((⟨#[]⟩ : ByteArray), (⟨#[]⟩ : ByteArray), 0)) else (if 0 ≤ (wrap64 (t155 + 1)) then (if (wrap64 (t155 + 1)) ≤ (s.size : Int) then ((spec_place.f k (s.extract 0 ((wrap64 (t155 + 1)) : Int).toNat) 92).bind fun t156 => (if t156 ≥ 0 then (some ((⟨#[]⟩ : ByteArray), (⟨#[]⟩ : ByteArray), 2)) else (if 1 ≤ (wrap64 (t155 + 1)) then (if 0 ≤ (wrap64 (t155 + 2)) then (if (wrap64 (t155 + 2)) ≤ (s.size : Int) then (some (s.extract 1 ((wrap64 (t155 + 1)) : Int).toNat, s.extract ((wrap64 (t155 + 2)) : Int).toNat s.size, 1)) else (none)) else (none)) else (none)))) else (none)) else (none))))) t → Ev (fun k => spec_value.f k s) t := by
        intro t ht
        simp only [spec_value.f]
        refine Ev.if_false (fun g => h0 ((tl_nil s).1 g)) (Ev.if_true (by omega) ?_)
        rw [hb, h34]
        exact Ev.step (fun k => by rw [show ((34 : Int) == 34) = true from rfl, spec_value.j0, if_pos rfl, if_pos (by omega)]) ht
      have hpl := place_ends (s.extract 1 s.size) 34 (by rw [ByteArray.size_extract]; omega)
      rw [hx] at hpl
      have hrl : r.length + 1 = s.size := by rw [← hl, e]; rfl
      have hr := idx_rng r 34
      by_cases hn : idx r 34 = -1
      · refine ⟨((⟨#[]⟩ : ByteArray), (⟨#[]⟩ : ByteArray), 0), ?_, .inr (.inl ⟨rfl, by rw [hv, quo_all false (idx_none.1 hn), if_neg (by omega)]⟩)⟩
        refine hj _ (Ev.bind hpl (Ev.if_true (by omega) (Ev.now _)))
      · obtain ⟨p, hp⟩ : ∃ p : Nat, idx r 34 = (p : Int) := ⟨(idx r 34).toNat, by omega⟩
        rw [hp] at hpl hr hn
        have hw1 : wrap64 ((p : Int) + 1) = ((p + 1 : Nat) : Int) := by rw [wrap_add (by omega) (by omega)]; rfl
        have hw2 : wrap64 ((p : Int) + 2) = ((p + 2 : Nat) : Int) := by unfold wrap64; omega
        have hpl2 := place_ends (s.extract 0 (p + 1)) 92 (by rw [ByteArray.size_extract]; omega)
        rw [ex_zero, e, List.take_succ_cons] at hpl2
        by_cases h92 : 92 ∈ r.take p
        · refine ⟨((⟨#[]⟩ : ByteArray), (⟨#[]⟩ : ByteArray), 2), ?_, .inl rfl⟩
          have hm : ¬ idx (c :: r.take p) 92 = -1 := fun g => idx_none.1 g (List.mem_cons_of_mem _ h92)
          have hr2 := idx_rng (c :: r.take p) 92
          refine hj _ (Ev.bind hpl (Ev.if_false (by omega) ?_))
          rw [hw1, Int.toNat_natCast]
          exact Ev.if_true (by omega) (Ev.if_true (by omega) (Ev.bind hpl2 (Ev.if_true (by omega) (Ev.now _))))
        · refine ⟨(s.extract 1 (p + 1), s.extract (p + 2) s.size, 1), ?_, .inr (.inr ⟨rfl, ?_⟩)⟩
          · have hm : idx (c :: r.take p) 92 = -1 := idx_none.2 (by rw [List.mem_cons, not_or]; exact ⟨by omega, h92⟩)
            refine hj _ (Ev.bind hpl (Ev.if_false (by omega) ?_))
            rw [hw1, hw2, Int.toNat_natCast, Int.toNat_natCast]
            exact Ev.if_true (by omega) (Ev.if_true (by omega) (Ev.bind hpl2 (Ev.if_false (by omega) (Ev.if_true (by omega) (Ev.if_true (by omega) (Ev.if_true (by omega) (Ev.now _)))))))
          · rw [hv, quo_idx p hp h92, if_pos (by omega), ns_extract, ns_from, hd]
            simp only [Nat.add_sub_cancel]
            rw [show 1 + p + 1 = p + 2 by omega]
    · have hv : valP (ns s) = if tokN (ns s) = 0 then none else some ((ns s).take (tokN (ns s)), (ns s).drop (tokN (ns s))) := by
        unfold valP; rw [if_neg (by omega), hg, if_neg h34]
      obtain ⟨N, hN⟩ : ∃ N, tokN (ns s) = N := ⟨_, rfl⟩
      have hNs := tokN_le (ns s)
      have := val_from s (by omega) N hN (by omega) s.size 0 (by omega) (by rw [List.drop_zero, hN]; omega)
      refine ⟨_, ?_, .inr (?_ : (if N = 0 then ((⟨#[]⟩ : ByteArray), (⟨#[]⟩ : ByteArray), (0 : Int)) else (s.extract 0 N, s.extract N s.size, 1)).2.2 = 0 ∧ _ ∨ _)⟩
      · simp only [spec_value.f]
        refine Ev.if_false (fun g => h0 ((tl_nil s).1 g)) (Ev.if_true (by omega) ?_)
        rw [hb, show (c == 34) = false from beq_eq_false_iff_ne.2 h34]
        exact Ev.step (fun k => by rw [spec_value.j0, if_neg (by simp)]; rfl) this
      · rw [hv, hN]
        by_cases hz : N = 0
        · rw [if_pos hz, if_pos hz]; exact .inl ⟨rfl, rfl⟩
        · rw [if_neg hz, if_neg hz]; exact .inr ⟨rfl, by rw [ex_zero, ns_from]⟩
theorem one_stop {xs t : List Int} (ht : t = ltrim xs) (h : t.length = 0 ∨ t.getD 0 0 ≠ 59) : oneP xs = none := by rw [oneP, ← ht, if_pos h]
theorem one_go {xs t u : List Int} (ht : t = ltrim xs) (h0 : ¬ t.length = 0) (h1 : t.getD 0 0 = 59) (hu : u = ltrim (t.drop 1)) : oneP xs = oneU u := by
  rw [oneP, ← ht, if_neg (fun g => g.elim h0 (fun g => g h1)), ← hu]
theorem name_from (m : Int) (out : List Sp) (u : ByteArray) (hs : u.size ≤ 1099511627776) (N : Nat) (hN : tokN (ns u) = N) (r : List Sp × Int) (h : Ev (fun k => spec_Params.j4 k m out u (N : Int)) r) :
    ∀ d i : Nat, i + d = u.size → i + tokN ((ns u).drop i) = N → Ev (fun k => spec_Params.l1 k m out u (i : Int)) r := by
  intro d
  induction d with
  | zero =>
    intro i hi ht
    have e0 : (ns u).drop i = [] := List.drop_eq_nil_of_le (by rw [ns_length]; omega)
    rw [e0] at ht
    obtain rfl : i = N := by simpa [tokN] using ht
    exact Ev.step (fun k => by rw [spec_Params.l1, if_neg (by omega)]) h
  | succ d ih =>
    intro i hi ht
    have hb := bt_rng u i (by omega)
    rw [tok_from u (by omega) i (by omega)] at ht
    refine Ev.step (f := fun k => (spec_FieldByte.f k (bt u (i : Int))).bind fun t => if t = true then spec_Params.l1 k m out u ((i + 1 : Nat) : Int) else spec_Params.j4 k m out u (i : Int)) (fun k => ?_) (Ev.bind (field_ends _ hb.1 hb.2) ?_)
    · rw [spec_Params.l1, if_pos (by omega), if_pos (by omega), wrap_add (by omega) (by omega)]
      rfl
    · refine Ev.ite (fun g => ?_) (fun g => ?_)
      · rw [if_pos g] at ht
        exact ih (i + 1) (by omega) (by omega)
      · rw [if_neg g] at ht
        obtain rfl : i = N := by omega
        exact h
def takeM (m : Int) (c : Nat) (l : SP) : SP := if m < 0 then l else l.take (m.toNat - c)
theorem takeM_nil {m : Int} {c : Nat} (h : ¬ m < 0) (h2 : ¬ (c : Int) < m) (l : SP) : takeM m c l = [] := by
  rw [takeM, if_neg h, show m.toNat - c = 0 by omega, List.take_zero]
theorem takeM_cons {m : Int} {c : Nat} (h : m < 0 ∨ (c : Int) < m) (p : ByteArray × ByteArray) (l : SP) : takeM m c (p :: l) = p :: takeM m (c + 1) l := by
  unfold takeM
  by_cases g : m < 0
  · rw [if_pos g, if_pos g]
  · obtain ⟨n, hn⟩ : ∃ n, m.toNat - c = n + 1 := ⟨m.toNat - c - 1, by omega⟩
    rw [if_neg g, if_neg g, hn, List.take_succ_cons, show m.toNat - (c + 1) = n by omega]
theorem takeM_nil' (m : Int) (c : Nat) : takeM m c [] = [] := by unfold takeM; split <;> simp
set_option maxHeartbeats 1000000 in
theorem params_from (m : Int) : ∀ (f : Nat) (x : ByteArray) (out : List Sp), x.size ≤ f → out.length + x.size ≤ 1099511627776 → 9 ∉ ns x →
    ∃ r, Ev (fun k => spec_Params.l0 k x m out) r ∧ (r.2 = 2 ∨ (r.2 = 1 ∧ r.1 = out ++ (takeM m out.length (parL f (ns x))).map toSp)) := by
  intro f
  induction f with
  | zero =>
    intro x out hf hs h9
    have e : ns x = [] := List.length_eq_zero_iff.1 (by rw [ns_length]; omega)
    obtain ⟨t, ht, hn⟩ := gap_ends x.size x (Nat.le_refl _) h9
    have ht0 : t.size = 0 := by have := ns_length t; rw [hn, e] at this; simpa [ltrim] using this.symm
    refine ⟨(out, 1), ?_, .inr ⟨rfl, by rw [parL, takeM_nil']; simp⟩⟩
    have stop : Ev (fun k => spec_Params.j1 k x m out true) (out, 1) := by
      refine Ev.step (f := fun k => (spec_gap.f k x).bind fun t159 => (if t159.toList = ([] : List UInt8) then (spec_Params.j2 k m out t159 true) else (if 0 < (t159.size : Int) then (spec_Params.j2 k m out t159 ((bt t159 0) != 59)) else (none)))) (fun k => by rw [spec_Params.j1, if_pos rfl]) (Ev.bind ht ?_)
      exact Ev.if_true ((tl_nil t).2 ht0) (Ev.step (f := fun _ => some _) (fun k => by rw [spec_Params.j2, if_pos rfl]) (Ev.now _))
    by_cases hm : m < 0
    · exact Ev.step (fun k => by rw [spec_Params.l0, if_pos hm]) stop
    · by_cases hc : (out.length : Int) < m
      · exact Ev.step (fun k => by rw [spec_Params.l0, if_neg hm, decide_eq_true hc]) stop
      · exact Ev.step (f := fun k => spec_Params.j1 k x m out false) (fun k => by rw [spec_Params.l0, if_neg hm, decide_eq_false hc]) (Ev.step (f := fun _ => some _) (fun k => by rw [spec_Params.j1, if_neg (by simp)]) (Ev.now _))
  | succ f ih =>
    intro x out hf hs h9
    -- what one round leaves
    suffices hgo : (m < 0 ∨ (out.length : Int) < m) → ∃ r, Ev (fun k => spec_Params.j1 k x m out true) r ∧ (r.2 = 2 ∨ (r.2 = 1 ∧ r.1 = out ++ (takeM m out.length (parL (f + 1) (ns x))).map toSp)) by
      by_cases hm : m < 0
      · obtain ⟨r, hr, h⟩ := hgo (.inl hm)
        exact ⟨r, Ev.step (fun k => by rw [spec_Params.l0, if_pos hm]) hr, h⟩
      · by_cases hc : (out.length : Int) < m
        · obtain ⟨r, hr, h⟩ := hgo (.inr hc)
          exact ⟨r, Ev.step (fun k => by rw [spec_Params.l0, if_neg hm, decide_eq_true hc]) hr, h⟩
        · exact ⟨(out, 1), Ev.step (f := fun k => spec_Params.j1 k x m out false) (fun k => by rw [spec_Params.l0, if_neg hm, decide_eq_false hc]) (Ev.step (f := fun _ => some _) (fun k => by rw [spec_Params.j1, if_neg (by simp)]) (Ev.now _)), .inr ⟨rfl, by rw [takeM_nil hm hc]; simp⟩⟩
    intro hgo
    obtain ⟨t, ht, hn⟩ := gap_ends x.size x (Nat.le_refl _) h9
    have hlx := ns_length x
    have hlt := ns_length t
    have htl := p_ltrim_le (ns x)
    rw [← hn] at htl
    have ht9 : 9 ∉ ns t := fun g => h9 (by rw [hn] at g; exact p_ltrim_mem g)
    have j1 : ∀ r, Ev (fun k => (if t.toList = ([] : List UInt8) then (spec_Params.j2 k m out t true) else (if 0 < (t.size : Int) then (spec_Params.j2 k m out t ((bt t 0) != 59)) else (none)))) r → Ev (fun k => spec_Params.j1 k x m out true) r := by
      intro r hr
      exact Ev.step (f := fun k => (spec_gap.f k x).bind fun t159 => (if t159.toList = ([] : List UInt8) then (spec_Params.j2 k m out t159 true) else (if 0 < (t159.size : Int) then (spec_Params.j2 k m out t159 ((bt t159 0) != 59)) else (none)))) (fun k => by rw [spec_Params.j1, if_pos rfl]) (Ev.bind ht hr)
    have j2stop : Ev (fun k => spec_Params.j2 k m out t true) (out, 1) := Ev.step (f := fun _ => some _) (fun k => by rw [spec_Params.j2, if_pos rfl]) (Ev.now _)
    have stopped : oneP (ns x) = none → ((out, (1 : Int)) : List Sp × Int).2 = 2 ∨ (((out, (1 : Int)) : List Sp × Int).2 = 1 ∧ ((out, (1 : Int)) : List Sp × Int).1 = out ++ (takeM m out.length (parL (f + 1) (ns x))).map toSp) :=
      fun h => .inr ⟨rfl, by rw [parL, h]; simp only [takeM_nil', List.map_nil, List.append_nil]⟩
    by_cases h0 : t.size = 0
    · exact ⟨(out, 1), j1 _ (Ev.if_true ((tl_nil t).2 h0) j2stop), stopped (one_stop hn (.inl (by omega)))⟩
    · obtain ⟨c, r0, e, hb, hx⟩ := head_ns h0
      have hg : (ns t).getD 0 0 = c := by rw [e]; rfl
      by_cases h59 : c = 59
      · obtain ⟨u, hu, hun⟩ := gap_ends t.size (t.extract 1 t.size) (by rw [ByteArray.size_extract]; omega) (by rw [ns_from]; exact fun g => ht9 (List.mem_of_mem_drop g))
        rw [ns_from] at hun
        have hone := one_go hn (by omega) (hg.trans h59) hun
        have hul : (ns u).length ≤ (ns t).length - 1 := by
          rw [hun]
          exact Nat.le_trans (p_ltrim_le _) (by rw [List.length_drop]; exact Nat.le_refl _)
        have hlu := ns_length u
        have hu9 : 9 ∉ ns u := fun g => ht9 (by rw [hun] at g; exact List.mem_of_mem_drop (p_ltrim_mem g))
        have j2go : ∀ r, Ev (fun k => spec_Params.l1 k m out u 0) r → Ev (fun k => spec_Params.j1 k x m out true) r := by
          intro r hr
          refine j1 r (Ev.if_false (fun g => h0 ((tl_nil t).1 g)) (Ev.if_true (by omega) ?_))
          rw [hb, h59]
          exact Ev.step (f := fun k => (spec_gap.f k (t.extract 1 t.size)).bind fun t160 => (spec_Params.l1 k m out t160 0)) (fun k => by rw [show ((59 : Int) != 59) = false from rfl, spec_Params.j2, if_neg (by simp), if_pos (by omega)]) (Ev.bind hu hr)
        obtain ⟨N, hN⟩ : ∃ N, tokN (ns u) = N := ⟨_, rfl⟩
        have hNl := tokN_le (ns u)
        have j4go : ∀ r, Ev (fun k => spec_Params.j4 k m out u (N : Int)) r → Ev (fun k => spec_Params.j1 k x m out true) r := fun r hr =>
          j2go r (name_from m out u (by omega) N hN r hr u.size 0 (by omega) (by rw [List.drop_zero, hN]; omega))
        have j5stop : Ev (fun k => spec_Params.j5 k m out u (N : Int) true) (out, 1) := Ev.step (f := fun _ => some _) (fun k => by rw [spec_Params.j5, if_pos rfl]) (Ev.now _)
        by_cases hz : N = 0
        · exact ⟨(out, 1), j4go _ (Ev.step (fun k => by rw [spec_Params.j4, if_pos (by omega)]) j5stop), stopped (by rw [hone, oneU_n0 (by omega)])⟩
        · by_cases hend : N = u.size
          · exact ⟨(out, 1), j4go _ (Ev.step (fun k => by rw [spec_Params.j4, if_neg (by omega), if_pos (by omega)]) j5stop), stopped (by rw [hone, oneU_eq hN (.inl (by omega))])⟩
          · have z1 : ¬ (N : Int) = 0 := by omega
            have z2 : ¬ (N : Int) = (u.size : Int) := by omega
            have z3 : (0 : Int) ≤ (N : Int) := by omega
            have z4 : (N : Int) < (u.size : Int) := by omega
            have z5 : (0 : Int) ≤ ((N + 1 : Nat) : Int) := by omega
            have z6 : ((N + 1 : Nat) : Int) ≤ (u.size : Int) := by omega
            have z7 : (N : Int) ≤ (u.size : Int) := by omega
            have z8 : out.length < 4398046511104 := by omega
            have z9 : N < (ns u).length := by omega
            have hw := Lib.hid (show wrap64 ((N : Int) + 1) = ((N + 1 : Nat) : Int) by rw [wrap_add (by omega) (by omega)]; rfl)
            have hbt := Lib.hid (bt_ns u N)
            by_cases h61 : (ns u).getD N 0 = 61
            · have hov := oneU_val hN hz z9 h61
              have H61 := Lib.hid h61
              clear h61
              obtain ⟨v, hv, hcase⟩ := value_ends (u.extract (N + 1) u.size) (by rw [ByteArray.size_extract]; omega)
              rw [ns_from] at hcase
              have j5go : ∀ r, Ev (fun k => (if v.2.2 = 2 then (some (([] : List Sp), 2)) else (if v.2.2 = 0 then (some (out, 1)) else (if 0 ≤ (N : Int) then (if (N : Int) ≤ (u.size : Int) then (if out.length < 4398046511104 then (spec_Params.l0 k v.2.1 m (out ++ [(⟨u.extract 0 (N : Int).toNat, v.1⟩ : Sp)])) else (none)) else (none)) else (none))))) r → Ev (fun k => spec_Params.j1 k x m out true) r := by
                intro r hr
                refine j4go r (Ev.step (f := fun k => spec_Params.j5 k m out u (N : Int) false) (fun k => by rw [spec_Params.j4, if_neg z1, if_neg z2, if_pos z3, if_pos z4, hbt.out, H61.out, show ((61 : Int) != 61) = false from rfl]) ?_)
                refine Ev.step (f := fun k => (spec_value.f k (u.extract (N + 1) u.size)).bind fun bt162 => (if bt162.2.2 = 2 then (some (([] : List Sp), 2)) else (if bt162.2.2 = 0 then (some (out, 1)) else (if 0 ≤ (N : Int) then (if (N : Int) ≤ (u.size : Int) then (if out.length < 4398046511104 then (spec_Params.l0 k bt162.2.1 m (out ++ [(⟨u.extract 0 (N : Int).toNat, bt162.1⟩ : Sp)])) else (none)) else (none)) else (none))))) (fun k => ?_) (Ev.bind hv hr)
                rw [spec_Params.j5, if_neg (by simp), hw.out, if_pos z5, if_pos z6, Int.toNat_natCast (N + 1)]
              rcases hcase with h2 | ⟨h2, hval⟩ | ⟨h2, hval⟩
              · exact ⟨(([] : List Sp), 2), j5go _ (Ev.if_true h2 (Ev.now _)), .inl rfl⟩
              · exact ⟨(out, 1), j5go _ (Ev.if_false (by omega) (Ev.if_true h2 (Ev.now _))), stopped (by rw [hone, hov, hval]; rfl)⟩
              · have hrest : (ns v.2.1).length < (ns x).length ∧ 9 ∉ ns v.2.1 := by
                  have hsub : ∃ n, ns v.2.1 = ((ns u).drop (N + 1)).drop n := by
                    unfold valP at hval
                    split at hval
                    · cases hval
                    · split at hval
                      · split at hval
                        · exact ⟨_, (congrArg Prod.snd (Option.some.inj hval)).symm⟩
                        · cases hval
                      · split at hval
                        · cases hval
                        · exact ⟨_, (congrArg Prod.snd (Option.some.inj hval)).symm⟩
                  obtain ⟨n, hn2⟩ := hsub
                  refine ⟨by rw [hn2, List.length_drop, List.length_drop]; omega, fun g => hu9 ?_⟩
                  rw [hn2] at g
                  exact List.mem_of_mem_drop (List.mem_of_mem_drop g)
                have hlv := ns_length v.2.1
                obtain ⟨r, hr, hres⟩ := ih v.2.1 (out ++ [(⟨u.extract 0 N, v.1⟩ : Sp)]) (by omega) (by rw [List.length_append, List.length_singleton]; omega) hrest.2
                refine ⟨r, j5go r (Ev.if_false (by omega) (Ev.if_false (by omega) (Ev.if_true z3 (Ev.if_true z7 (Ev.if_true z8 ?_))))), ?_⟩
                · rw [Int.toNat_natCast]; exact hr
                · refine hres.imp id (fun ⟨g1, g2⟩ => ⟨g1, ?_⟩)
                  have hp1 : oneP (ns x) = some ((ns u).take N, ns v.1, ns v.2.1) := by rw [hone, hov, hval]; rfl
                  have hp2 : parL (f + 1) (ns x) = (u.extract 0 N, v.1) :: parL f (ns v.2.1) := by
                    rw [parL, hp1]
                    simp only [strOf_ns]
                    rw [← ex_zero, strOf_ns]
                  rw [g2, hp2, takeM_cons hgo, List.map_cons, List.length_append, List.length_singleton, List.append_assoc]
                  rfl
            · refine ⟨(out, 1), j4go _ (Ev.step (f := fun k => spec_Params.j5 k m out u (N : Int) true) (fun k => ?_) j5stop), stopped (by rw [hone, oneU_eq hN (.inr h61)])⟩
              rw [spec_Params.j4, if_neg z1, if_neg z2, if_pos z3, if_pos z4, hbt.out, show ((ns u).getD N 0 != 61) = true from bne_iff_ne.2 h61]
      · refine ⟨(out, 1), j1 _ (Ev.if_false (fun g => h0 ((tl_nil t).1 g)) (Ev.if_true (by omega) ?_)), stopped (one_stop hn (.inr (by rw [hg]; exact h59)))⟩
        rw [hb, show (c != 59) = true from bne_iff_ne.2 h59]
        exact j2stop
theorem params_ends (x : ByteArray) (m : Int) (hs : x.size ≤ 1099511627776) : ∃ r, Ev (fun k => spec_Params.f k x m) r ∧ (r.2 = 2 ∨ (r.2 = 1 ∧ 9 ∉ ns x ∧ r.1 = (takeM m 0 (parL x.size (ns x))).map toSp)) := by
  have hp := place_ends x 9 (by omega)
  have hr := idx_rng (ns x) 9
  by_cases h9 : 9 ∈ ns x
  · have : ¬ idx (ns x) 9 = -1 := fun g => idx_none.1 g h9
    exact ⟨(([] : List Sp), 2), Ev.bind hp (Ev.if_true (by omega) (Ev.now _)), .inl rfl⟩
  · have : idx (ns x) 9 = -1 := idx_none.2 h9
    obtain ⟨r, h, hc⟩ := params_from m x.size x [] (Nat.le_refl _) (by simpa using hs) h9
    exact ⟨r, Ev.bind hp (Ev.if_false (by omega) h), hc.imp id (fun ⟨a, b⟩ => ⟨a, h9, by simpa using b⟩)⟩
abbrev qS : ByteArray := ⟨#[113]⟩
def findS (l : List Sp) (name : ByteArray) : Option Sp := l.find? fun q => eqFold q.f0 name
def wantS (l : List Sp) : List Sp := l.takeWhile fun p => !eqFold p.f0 qS
def dupS (l : List Sp) : Bool := (List.range l.length).any fun i => (findS (l.take i) ((l.getD i z38).f0)).isSome
def hitS (lb : List Sp) (p : Sp) : Bool := match findS lb p.f0 with
  | some q => eqFold q.f1 p.f1
  | none => false
def pmS (la lb : List Sp) : Int := if dupS (wantS la) = true ∨ dupS lb = true then 2 else if (wantS la).all (hitS lb) = true then 1 else 0
def valR (l : List Sp) (name : ByteArray) : ByteArray := match findS l name with
  | some q => q.f1
  | none => ⟨#[]⟩
def Small (l : List Sp) : Prop := l.length ≤ 1099511627776 ∧ ∀ p ∈ l, p.f0.size ≤ 1099511627776 ∧ p.f1.size ≤ 1099511627776
theorem Small.take {l : List Sp} (h : Small l) (i : Nat) : Small (l.take i) := ⟨by rw [List.length_take]; have := h.1; omega, fun p hp => h.2 p (List.mem_of_mem_take hp)⟩
theorem rdSp_nat (l : List Sp) (i : Nat) (h : i < l.length) : rd_T38 l (i : Int) = l[i] := by
  show l.getD i z38 = l[i]
  rw [List.getD_eq_getElem?_getD, List.getElem?_eq_getElem h]; rfl
theorem valueOf_from (l : List Sp) (name : ByteArray) (hl : Small l) (d : Nat) : ∀ i : Nat, i + d = l.length → Ev (fun k => spec_valueOf.l0 k name l (l.length : Int) (i : Int)) (valR (l.drop i) name, (findS (l.drop i) name).isSome) := by
  induction d with
  | zero =>
    intro i hi
    have z1 : ¬ (i : Int) < (l.length : Int) := by omega
    rw [List.drop_eq_nil_of_le (by omega)]
    exact Ev.step (f := fun _ => some _) (fun k => by rw [spec_valueOf.l0, if_neg z1]; rfl) (Ev.now _)
  | succ d ih =>
    intro i hi
    have h0 := hl.1
    have hlt : i < l.length := by omega
    have z1 : (i : Int) < (l.length : Int) := by omega
    have z2 : (0 : Int) ≤ (i : Int) := by omega
    have hw := Lib.hid (show wrap64 ((i : Int) + 1) = ((i + 1 : Nat) : Int) by rw [wrap_add (by omega) (by omega)]; rfl)
    have hsz := (hl.2 _ (List.getElem_mem hlt)).1
    refine Ev.step (f := fun k => (spec_same.f k (l[i]).f0 name).bind fun t => if t = true then (some ((l[i]).f1, true)) else spec_valueOf.l0 k name l (l.length : Int) ((i + 1 : Nat) : Int)) (fun k => by rw [spec_valueOf.l0, if_pos z1, if_pos z2, if_pos z1, rdSp_nat l i hlt, hw.out]) (Ev.bind (same_ends (l[i]).f0 name (by omega)) ?_)
    rw [List.drop_eq_getElem_cons hlt]
    unfold valR findS
    refine Ev.ite (fun h => Ev.val ?_) (fun h => ?_)
    · rw [List.find?_cons_of_pos (p := fun q : Sp => eqFold q.f0 name) h]; rfl
    · rw [List.find?_cons_of_neg (p := fun q : Sp => eqFold q.f0 name) h]
      exact ih (i + 1) (by omega)
theorem valueOf_calls (A : Option Addr) (c : Nat) (l : List Sp) (name : ByteArray) (w : World) (hr : Kd.C k38 w A l.length l) (hc : l.length ≤ c) (hl : Small l) :
    Calls Try.prog 32 #[.slice A l.length c, .string name] w fun e w' => e = .returned (.tuple #[.string (valR l name), .bool (findS l name).isSome]) ∧ Below w.heap.size w w' := by
  obtain ⟨k, hk⟩ := Ev.rounds (valueOf_from l name hl l.length 0 (by omega))
  rw [List.drop_zero] at hk
  exact spec_valueOf.calls k A c l name _ _ w hr hc hk
theorem same_calls (a b : ByteArray) (w : World) (hs : a.size ≤ 1099511627776) : Calls Try.prog 31 #[.string a, .string b] w fun e w' => e = .returned (.bool (eqFold a b)) ∧ Drawn0 w w' := by
  obtain ⟨k, hk⟩ := Ev.rounds (same_ends a b (by omega))
  exact spec_same.calls k a b _ w hk
theorem dupS_true {l : List Sp} {j : Nat} (hj : j < l.length) (h : (findS (l.take j) ((l.getD j z38).f0)).isSome = true) : dupS l = true := List.any_eq_true.2 ⟨j, List.mem_range.2 hj, h⟩
theorem dupS_false {l : List Sp} (h : ∀ m : Nat, m < l.length → (findS (l.take m) ((l.getD m z38).f0)).isSome = false) : dupS l = false := List.any_eq_false.2 (fun m hm => by rw [h m (List.mem_range.1 hm)]; simp)
theorem want_stop (la : List Sp) (i : Nat) (hi : i < la.length) (h : ∀ q ∈ la.take i, ¬ eqFold q.f0 qS = true) (hq : eqFold (la[i]).f0 qS = true) : wantS la = la.take i := by
  induction la generalizing i with
  | nil => simp at hi
  | cons p t ih =>
    cases i with
    | zero =>
      unfold wantS
      rw [List.takeWhile_cons_of_neg (by simpa using hq)]; rfl
    | succ i =>
      rw [List.take_succ_cons] at h
      have h0 := h p (List.mem_cons_self ..)
      have ih := ih i (by simpa using hi) (fun q hq2 => h q (List.mem_cons_of_mem _ hq2)) (by simpa using hq)
      unfold wantS at ih ⊢
      rw [List.takeWhile_cons_of_pos (by simpa using h0), ih, List.take_succ_cons]
theorem want_all (la : List Sp) (h : ∀ q ∈ la, ¬ eqFold q.f0 qS = true) : wantS la = la.take la.length := by
  rw [List.take_length]
  unfold wantS
  induction la with
  | nil => rfl
  | cons p t ih =>
    have h0 := h p (List.mem_cons_self ..)
    rw [List.takeWhile_cons_of_pos (by simpa using h0), ih (fun q hq2 => h q (List.mem_cons_of_mem _ hq2))]
set_option maxHeartbeats 8000000 in
set_option maxRecDepth 100000 in
theorem specPM_two (a0 a1 : ByteArray) (ka kb : Nat) (la lb : List Sp) (sa sb : Int) (ha : spec_Params.f ka a0 (-1) = some (la, sa)) (hb : spec_Params.f kb a1 (-1) = some (lb, sb)) (hs : sa ≠ 1 ∨ sb ≠ 1) (w : World) :
    Calls Try.prog 15 #[.string a0, .string a1] w fun e w' => e = .returned (.int .i64 2) ∧ Below w.heap.size w w' := by
  have HPA := Lib.hid ha
  have HPB := Lib.hid hb
  clear ha hb
  go_enter Try.func15, Try.ntmps15
  by_cases hsa : sa = 1
  · subst hsa
    have hsb : (sb != 1) = true := bne_iff_ne.2 (hs.resolve_left (by simp))
    clear hs
    go_wp2_with (first
      | (go_at_call 11; with_reducible show Calls Try.prog 11 #[.string a0, _] _ _; refine (spec_Params.calls ka a0 (-1) la 1 _ HPA.out).mono ?_; rintro e w1 ⟨va, rfl, hra, hba⟩; obtain ⟨Aa, ca, rfl, hca, hCa⟩ := Kd.R_reads hra; have HCA := Lib.hid hCa; have HLA := Lib.hid hca; have HBA := Lib.hid hba; clear hra hba hca hCa)
      | (go_at_call 11; with_reducible show Calls Try.prog 11 #[.string a1, _] _ _; refine (spec_Params.calls kb a1 (-1) lb sb _ HPB.out).mono ?_; rintro e w2 ⟨vb, rfl, hrb, hbb⟩; obtain ⟨Ab, cb, rfl, hcb, hCb⟩ := Kd.R_reads hrb; have HCB := Lib.hid hCb; have HLB := Lib.hid hcb; have HBB := Lib.hid hbb; clear hrb hbb hcb hCb))
    go_ret
    exact ⟨rfl, below_step HBA.out HBB.out⟩
  · have hsa : (sa != 1) = true := bne_iff_ne.2 hsa
    clear hs
    go_wp2_with (first
      | (go_at_call 11; with_reducible show Calls Try.prog 11 #[.string a0, _] _ _; refine (spec_Params.calls ka a0 (-1) la sa _ HPA.out).mono ?_; rintro e w1 ⟨va, rfl, hra, hba⟩; obtain ⟨Aa, ca, rfl, hca, hCa⟩ := Kd.R_reads hra; have HCA := Lib.hid hCa; have HLA := Lib.hid hca; have HBA := Lib.hid hba; clear hra hba hca hCa)
      | (go_at_call 11; with_reducible show Calls Try.prog 11 #[.string a1, _] _ _; refine (spec_Params.calls kb a1 (-1) lb sb _ HPB.out).mono ?_; rintro e w2 ⟨vb, rfl, hrb, hbb⟩; obtain ⟨Ab, cb, rfl, hcb, hCb⟩ := Kd.R_reads hrb; have HCB := Lib.hid hCb; have HLB := Lib.hid hcb; have HBB := Lib.hid hbb; clear hrb hbb hcb hCb))
    go_ret
    exact ⟨rfl, below_step HBA.out HBB.out⟩
set_option maxHeartbeats 8000000 in
set_option maxRecDepth 100000 in
theorem specPM_one (a0 a1 : ByteArray) (ka kb : Nat) (la lb : List Sp) (ha : spec_Params.f ka a0 (-1) = some (la, 1)) (hb : spec_Params.f kb a1 (-1) = some (lb, 1)) (hla : Small la) (hlb : Small lb) (w : World) :
    Calls Try.prog 15 #[.string a0, .string a1] w fun e w' => e = .returned (.int .i64 (pmS la lb)) ∧ Below w.heap.size w w' := by
  have HPA := Lib.hid ha
  have HPB := Lib.hid hb
  clear ha hb
  go_enter Try.func15, Try.ntmps15
  · skip
    go_wp2_with (first
      | (go_at_call 11; with_reducible show Calls Try.prog 11 #[.string a0, _] _ _; refine (spec_Params.calls ka a0 (-1) la 1 _ HPA.out).mono ?_; rintro e w1 ⟨va, rfl, hra, hba⟩; obtain ⟨Aa, ca, rfl, hca, hCa⟩ := Kd.R_reads hra; have HCA := Lib.hid hCa; have HLA := Lib.hid hca; have HBA := Lib.hid hba; clear hra hba hca hCa)
      | (go_at_call 11; with_reducible show Calls Try.prog 11 #[.string a1, _] _ _; refine (spec_Params.calls kb a1 (-1) lb 1 _ HPB.out).mono ?_; rintro e w2 ⟨vb, rfl, hrb, hbb⟩; obtain ⟨Ab, cb, rfl, hcb, hCb⟩ := Kd.R_reads hrb; have HCB := Lib.hid hCb; have HLB := Lib.hid hcb; have HBB := Lib.hid hbb; clear hrb hbb hcb hCb))
    have HCA2 := Lib.hid (Kd.C_below HCA.out HBB.out)
    have HB2 := Lib.hid (below_step HBA.out HBB.out)
    have hl0 := hla.1
    have hl1 := hlb.1
    clear HCA HBA HBB
    go_loopw [40, 9] (fun iv v9 wr => ∃ (i : Nat), iv = .int .i64 i ∧ i ≤ la.length ∧ Hid (Kd.R k38 38 wr w2.heap.size (fun _ => True) v9 (la.take i)) ∧ Hid (∀ p ∈ la.take i, ¬ eqFold p.f0 qS = true) ∧ Hid (Below w2.heap.size w2 wr)) (fun iv _ _ => la.length - (intOf iv).toNat)
    case atStart => exact ⟨0, rfl, by omega, Lib.hid (Kd.R_nil _ _ _ _ _), Lib.hid (by simp), Lib.hid (Below.refl _ _)⟩
    case round =>
      obtain ⟨i, rfl, hi, HR, HNO, HX⟩ := hrel
      obtain ⟨Ax, cx, rfl, hcx, hCx⟩ := Kd.R_reads HR.out
      have hli : (la.take i).length = i := by rw [List.length_take]; omega
      rw [hli] at HR hcx hCx
      clear hli
      have HCX := Lib.hid hCx
      have HLX := Lib.hid hcx
      clear hcx hCx
      by_cases hlt : i < la.length
      · obtain ⟨p, hp⟩ : ∃ p, la[i] = p := ⟨_, rfl⟩
        have hlt' : decide ((i : Int) < (la.length : Int)) = true := decide_eq_true (by omega)
        obtain ⟨ad, e0, y0, y1⟩ := at_T38 (Kd.C_below HCA2.out HX.out) (i : Int) (by omega) (by omega)
        cases e0
        rw [rdSp_nat la _ hlt, hp] at y0 y1
        simp only [Int.toNat_natCast] at y0 y1
        have hpz : p.f0.size ≤ 1099511627776 := (hla.2 p (by rw [← hp]; exact List.getElem_mem hlt)).1
        have ht : la.take (i + 1) = la.take i ++ [p] := by rw [List.take_succ_eq_append_getElem hlt, hp]
        by_cases hq : eqFold p.f0 qS = true
        · go_upto_region 12 with (first
            | ((with_reducible refine gate_dst (N := 11) rfl ?_); refine box_event ?hg (N := 11) ?hd (cs := #[.string (⟨#[]⟩ : ByteArray), .string (⟨#[]⟩ : ByteArray)]) (t := 38) ?hr ?_; (case hd => rfl); (case hg => rfl); (case hr => first | (go_simp; done) | (go_simp; rfl)); intro gb hg wb hbox hb; have HN := Lib.hid (show Below wr.heap.size wr wb from hb); have GE := Lib.hid (show wr.heap.size ≤ gb by rw [hg]; exact Nat.le_refl _); have BK := Lib.hid hbox; clear hb hbox hg; have b0 : wb.cell? ⟨gb, 0, none⟩ = some (.string (⟨#[]⟩ : ByteArray)) := (blk_cell BK.out 0).trans rfl; have b1 : wb.cell? ⟨gb, 1, none⟩ = some (.string (⟨#[]⟩ : ByteArray)) := (blk_cell BK.out 1).trans rfl; have f0 := blk_frozen BK.out 0; have f1 := blk_frozen BK.out 1)
            | (go_at_call 31; (with_reducible refine (same_calls p.f0 qS _ hpz).mono ?_); rintro e w4 ⟨rfl, ⟨nd, rfl⟩⟩; rw [hq]))
          have hX : wantS la = la.take i := want_stop la i hlt (fun q hq2 => HNO.out q hq2) (by rw [hp]; exact hq)
          obtain ⟨W3, hW3⟩ : ∃ W, W = ((wb.setCell ⟨gb, 0, none⟩ (.string p.f0)).setCell ⟨gb, 1, none⟩ (.string p.f1)).drewN nd := ⟨_, rfl⟩
          rw [← hW3]
          have HN3 := Lib.hid (show Below wr.heap.size wr W3 by rw [hW3]; exact (by with_reducible repeat (first | exact HN.out | apply below_alloc | apply pw_below_drewN | apply below_drew1 | refine below_set ?_ GE.out)))
          clear hW3 HN GE BK b0 b1 f0 f1 y0 y1

          have hXl : (la.take i).length = i := by rw [List.length_take]; omega
          obtain ⟨X, hXd⟩ : ∃ X, la.take i = X := ⟨_, rfl⟩
          have sX := hla.take i
          rw [hXd] at hX HCX hXl sX
          have hX := Lib.hid hX
          have HC1 := Lib.hid (Kd.C_below HCX.out HN3.out)
          have HC2 := Lib.hid (Kd.C_below HCB.out (below_step HX.out HN3.out))
          have HBW := Lib.hid (below_step HB2.out (below_step HX.out HN3.out))
          have HL_0 := HLX
          have HL_1 := HLB
          clear hXd HN3 HCX HCB HX HR HNO HCA2 HB2 hXl
          go_wp2
          obtain ⟨W4, hW4⟩ : ∃ W, W = W3.alloc (.cells #[.slice Ax i cx, .slice Ab lb.length cb] 30) := ⟨_, rfl⟩
          rw [← hW4]
          have HN4 := Lib.hid (show Below W3.heap.size W3 W4 by rw [hW4]; exact below_alloc (Below.refl _ _) _)
          have k0 : W4.cell? ⟨W3.heap.size, 0, none⟩ = some (.slice Ax i cx) := by rw [hW4]; first | (go_simp; done) | (simp; done)
          have k1 : W4.cell? ⟨W3.heap.size, 1, none⟩ = some (.slice Ab lb.length cb) := by rw [hW4]; first | (go_simp; done) | (simp; done)
          have K0 := Lib.hid k0
          have K1 := Lib.hid k1
          clear hW4 k0 k1
          go_loopw [56] (fun kv wk => (kv = .int .i64 0 ∨ (kv = .int .i64 1 ∧ Hid (dupS X = false)) ∨ (kv = .int .i64 2 ∧ Hid (dupS X = false) ∧ Hid (dupS lb = false))) ∧ Hid (Below W4.heap.size W4 wk)) (fun kv _ => 2 - (intOf kv).toNat)
          case atStart => exact ⟨.inl rfl, Lib.hid (Below.refl _ _)⟩
          case round =>
            obtain ⟨hcase, HY⟩ := hrel
            obtain ⟨Wa, rfl⟩ : ∃ W, W = wr := ⟨_, rfl⟩
            have q0 : Wa.cell? ⟨W3.heap.size, 0, none⟩ = some (.slice Ax i cx) := (HY.out.cell (World.block_lt_of_cell? _ _ K0.out)).trans K0.out
            have q1 : Wa.cell? ⟨W3.heap.size, 1, none⟩ = some (.slice Ab lb.length cb) := (HY.out.cell (World.block_lt_of_cell? _ _ K1.out)).trans K1.out
            have HC3 := Lib.hid (Kd.C_below (Kd.C_below HC1.out HN4.out) HY.out)
            have HC4 := Lib.hid (Kd.C_below (Kd.C_below HC2.out HN4.out) HY.out)
            obtain rfl | ⟨rfl, D0⟩ | ⟨rfl, D0, D1⟩ := hcase
            · go_wp2
              go_loopw [62] (fun jv wi => ∃ j : Nat, jv = .int .i64 j ∧ j ≤ i ∧ Hid (∀ m : Nat, m < j → (findS (X.take m) ((X.getD m z38).f0)).isSome = false) ∧ Hid (Below Wa.heap.size Wa wi)) (fun jv _ => i - (intOf jv).toNat)
              case atStart => exact ⟨0, rfl, by omega, Lib.hid (by intro m hm; omega), Lib.hid (Below.refl _ _)⟩
              case round =>
                obtain ⟨j, rfl, hj, HF, HZ⟩ := hrel
                by_cases hlt : j < i
                · have hlt2 : j < X.length := by have := HC3.out.1; omega
                  obtain ⟨p, hp⟩ : ∃ p, X[j]'hlt2 = p := ⟨_, rfl⟩
                  have hlt' : decide ((j : Int) < (i : Int)) = true := decide_eq_true (by omega)
                  obtain ⟨ad, e0, y0, y1⟩ := at_T38 (Kd.C_below HC3.out HZ.out) (j : Int) (by omega) (by omega)
                  cases e0
                  rw [rdSp_nat X _ hlt2, hp] at y0 y1
                  simp only [Int.toNat_natCast] at y0 y1
                  have hgd : X.getD j z38 = p := by rw [List.getD_eq_getElem?_getD, List.getElem?_eq_getElem hlt2, hp]; rfl
                  have z0 : (0 : Int) ≤ (j : Int) := by omega
                  have zN : j ≤ i := by omega
                  have hjc : j ≤ cx := by have := HL_0.out; omega
                  go_upto_region 18 with (first
                    | ((with_reducible refine gate_dst (N := 15) rfl ?_); refine box_event ?hg (N := 15) ?hd (cs := #[.string (⟨#[]⟩ : ByteArray), .string (⟨#[]⟩ : ByteArray)]) (t := 38) ?hr ?_; (case hd => rfl); (case hg => rfl); (case hr => first | (go_simp; done) | (go_simp; rfl)); intro gb hg wb hbox hb; have HN := Lib.hid (show Below wr.heap.size wr wb from hb); have GE := Lib.hid (show wr.heap.size ≤ gb by rw [hg]; exact Nat.le_refl _); have BK := Lib.hid hbox; clear hb hbox hg; have b0 : wb.cell? ⟨gb, 0, none⟩ = some (.string (⟨#[]⟩ : ByteArray)) := (blk_cell BK.out 0).trans rfl; have b1 : wb.cell? ⟨gb, 1, none⟩ = some (.string (⟨#[]⟩ : ByteArray)) := (blk_cell BK.out 1).trans rfl; have f0 := blk_frozen BK.out 0; have f1 := blk_frozen BK.out 1))
                  obtain ⟨W5, hW5⟩ : ∃ W, W = (wb.setCell ⟨gb, 0, none⟩ (.string p.f0)).setCell ⟨gb, 1, none⟩ (.string p.f1) := ⟨_, rfl⟩
                  rw [← hW5]
                  have HN5 := Lib.hid (show Below wr.heap.size wr W5 by rw [hW5]; exact (by with_reducible repeat (first | exact HN.out | apply below_alloc | apply pw_below_drewN | apply below_drew1 | refine below_set ?_ GE.out)))
                  have c0_ : W5.drew.cell? ⟨gb, 0, none⟩ = some (.string p.f0) := by rw [hW5]; first | (go_simp; done) | (simp; done)
                  have c1_ : W5.cell? ⟨gb, 1, none⟩ = some (.string p.f1) := by rw [hW5]; first | (go_simp; done) | (simp; done)
                  clear hW5 HN BK b0 b1 f0 f1 y0 y1
                  obtain ⟨fv, hfv⟩ : ∃ b, (findS (X.take j) p.f0).isSome = b := ⟨_, rfl⟩
                  have HV := Lib.hid (show ∀ W, Below W5.heap.size W5 W → Calls Try.prog 32 #[.slice (some ad) j cx, .string p.f0] W fun e w' => e = .returned (.tuple #[.string (valR (X.take j) p.f0), .bool fv]) ∧ Below W.heap.size W w' from by
                    intro W hW
                    have hC := HC3.out
                    have hlN : X.length = i := hC.1
                    rw [← hlN] at hC
                    have h1 := Kd.C_take (Kd.C_below (Kd.C_below (Kd.C_below hC HZ.out) HN5.out) hW) (show j ≤ X.length by omega)
                    have h2 := valueOf_calls (some ad) cx (X.take j) p.f0 W h1 (by rw [List.length_take]; have := HL_0.out; omega) (sX.take j)
                    rw [List.length_take, Nat.min_eq_left (by omega), hfv] at h2
                    exact h2)
                  refine start_ (n := 11) (S := fun w' => w'.cell? ⟨gb, 0, none⟩ = some (.string p.f0)) (ds := []) #[false,false,false,false,false,false,false,false,false,false,false] (by kernel_rfl) rfl rfl c0_ (fun hHeld => ?_)
                  generalize hWd : World.drew W5 = W2_ at hHeld ⊢
                  refine pure_ (i := 0) (N := some 68) (v := ?_) (a' := ?_) #[true,false,false,false,false,false,false,false,false,false,false] rfl rfl (by kernel_rfl) (fun _ _ _ h => h) (Or.inl ⟨by rfl, ?_⟩) ?_ ?_
                  rotate_left
                  · intro w'
                    go_simp
                    with_reducible rfl
                  rotate_left
                  · simp only [Act.put, List.setIfInBounds_toArray, List.set_cons_zero, List.set_cons_succ, i64_w, i32_w]
                    rfl
                  refine pure_ (i := 1) (N := some 69) (v := ?_) (a' := ?_) #[true,true,false,false,false,false,false,false,false,false,false] rfl rfl (by kernel_rfl) (fun _ _ _ h => h) (Or.inl ⟨by rfl, ?_⟩) ?_ ?_
                  rotate_left
                  · intro w'
                    go_simp
                    with_reducible rfl
                  rotate_left
                  · simp only [Act.put, List.setIfInBounds_toArray, List.set_cons_zero, List.set_cons_succ, i64_w, i32_w]
                    rfl
                  refine pure_ (i := 2) (N := some 70) (v := ?_) (a' := ?_) #[true,true,true,false,false,false,false,false,false,false,false] rfl rfl (by kernel_rfl) (fun _ _ _ h => h) (Or.inl ⟨by rfl, ?_⟩) ?_ ?_
                  rotate_left
                  · intro w'
                    go_simp
                    with_reducible rfl
                  rotate_left
                  · simp only [Act.put, List.setIfInBounds_toArray, List.set_cons_zero, List.set_cons_succ, i64_w, i32_w]
                    rfl
                  refine pure_ (i := 3) (N := some 71) (v := ?_) (a' := ?_) #[true,true,true,true,false,false,false,false,false,false,false] rfl rfl (by kernel_rfl) (fun _ _ _ h => h) (Or.inl ⟨by rfl, ?_⟩) ?_ ?_
                  rotate_left
                  · intro w'
                    go_simp
                    with_reducible rfl
                  rotate_left
                  · simp only [Act.put, List.setIfInBounds_toArray, List.set_cons_zero, List.set_cons_succ, i64_w, i32_w]
                    rfl
                  refine take_ (i := 4) (N := some 72) (v := ?_) (a' := ?_) #[true,true,true,true,true,false,false,false,false,false,false] rfl rfl (by kernel_rfl) (fun _ _ _ h => h) (Or.inl ⟨by rfl, ?_⟩) hHeld ?_ ?_
                  rotate_left
                  · rintro w' s0
                    go_simp
                    with_reducible rfl
                  rotate_left
                  · simp only [Act.put, List.setIfInBounds_toArray, List.set_cons_zero, List.set_cons_succ, i64_w, i32_w]
                    rfl
                  refine one_ (i := 5) (N := some 73) #[true,true,true,true,true,true,false,false,false,false,false] rfl rfl (by kernel_rfl) (by decide) (fun K hK => ?_)
                  refine goes_ Try.func32 (by kernel_rfl) rfl #[.slice (some ad) j cx, .string p.f0] (by rfl) rfl rfl (by (try simp only [List.map_toArray, List.map_cons, List.map_nil]); first | done | rfl) ?_
                  with_reducible refine (HV.out _ (by rw [← hWd]; exact below_drew1 (Below.refl _ _))).mono ?_
                  rintro e w6 ⟨rfl, hb6⟩
                  have HY6 := Lib.hid (show Below W5.heap.size W5 w6 from by rw [← hWd] at hb6; exact (below_drew1 (Below.refl _ _)).trans hb6)
                  refine ⟨_, rfl, ?_⟩
                  refine hK.out _ _ ((hb6.cell (World.block_lt_of_cell? _ _ hHeld)).trans hHeld) (fun hHeld => ?_)
                  clear hK K
                  refine norm_ (a' := ?_) ?_ ?_
                  rotate_left
                  · show Act.put _ (some 73) _ = _
                    simp only [Act.put, List.setIfInBounds_toArray, List.set_cons_zero, List.set_cons_succ, i64_w, i32_w]
                    rfl
                  refine pure_ (i := 6) (N := some 67) (v := ?_) (a' := ?_) #[true,true,true,true,true,true,true,false,false,false,false] rfl rfl (by kernel_rfl) (fun _ _ _ h => h) (Or.inl ⟨by rfl, ?_⟩) ?_ ?_
                  rotate_left
                  · intro w'
                    go_simp
                    with_reducible rfl
                  rotate_left
                  · simp only [Act.put, List.setIfInBounds_toArray, List.set_cons_zero, List.set_cons_succ, i64_w, i32_w]
                    rfl
                  refine pure_ (i := 7) (N := some 74) (v := ?_) (a' := ?_) #[true,true,true,true,true,true,true,true,false,false,false] rfl rfl (by kernel_rfl) (fun _ _ _ h => h) (Or.inl ⟨by rfl, ?_⟩) ?_ ?_
                  rotate_left
                  · intro w'
                    go_simp
                    with_reducible rfl
                  rotate_left
                  · simp only [Act.put, List.setIfInBounds_toArray, List.set_cons_zero, List.set_cons_succ, i64_w, i32_w]
                    rfl
                  refine pure_ (i := 8) (N := some 75) (v := ?_) (a' := ?_) #[true,true,true,true,true,true,true,true,true,false,false] rfl rfl (by kernel_rfl) (fun _ _ _ h => h) (Or.inl ⟨by rfl, ?_⟩) ?_ ?_
                  rotate_left
                  · intro w'
                    go_simp
                    with_reducible rfl
                  rotate_left
                  · simp only [Act.put, List.setIfInBounds_toArray, List.set_cons_zero, List.set_cons_succ, i64_w, i32_w]
                    rfl
                  refine pure_ (i := 9) (N := some 16) (v := ?_) (a' := ?_) #[true,true,true,true,true,true,true,true,true,true,false] rfl rfl (by kernel_rfl) (fun _ _ _ h => h) (Or.inl ⟨by rfl, ?_⟩) ?_ ?_
                  rotate_left
                  · intro w'
                    go_simp
                    with_reducible rfl
                  rotate_left
                  · simp only [Act.put, List.setIfInBounds_toArray, List.set_cons_zero, List.set_cons_succ, i64_w, i32_w]
                    rfl
                  refine pure_ (i := 10) (N := some 17) (v := ?_) (a' := ?_) #[true,true,true,true,true,true,true,true,true,true,true] rfl rfl (by kernel_rfl) (fun _ _ _ h => h) (Or.inl ⟨by rfl, ?_⟩) ?_ ?_
                  rotate_left
                  · intro w'
                    go_simp
                    with_reducible rfl
                  rotate_left
                  · simp only [Act.put, List.setIfInBounds_toArray, List.set_cons_zero, List.set_cons_succ, i64_w, i32_w]
                    rfl
                  refine done_ (by kernel_rfl) ?_
                  cases fv with
                  | true =>
                    go_wp2
                    go_ret
                    refine ⟨?_, below_step HBW.out (below_step HN4.out (below_step HY.out (below_step HZ.out (below_step HN5.out HY6.out))))⟩
                    rw [pmS, if_pos (.inl (by rw [hX.out]; exact dupS_true hlt2 (by rw [hgd]; exact hfv)))]
                    rfl
                  | false =>
                    go_wp2
                    exact ⟨⟨j + 1, by simp, by omega, Lib.hid (by
                      intro m hm
                      rcases Nat.lt_or_ge m j with h | h
                      · exact HF.out m h
                      · obtain rfl : m = j := by omega
                        rw [hgd]; exact hfv), Lib.hid (below_step HZ.out (below_step HN5.out HY6.out))⟩, by simp [intOf]; omega⟩
                · obtain rfl : i = j := by omega
                  have hq_ : ¬ (i : Int) < (i : Int) := by omega
                  have hD : dupS X = false := dupS_false (by have := HC3.out.1; rw [this]; exact HF.out)
                  go_wp2
                  exact ⟨⟨.inr (.inl ⟨rfl, Lib.hid hD⟩), Lib.hid (below_step HY.out HZ.out)⟩, by simp [intOf]⟩
            · go_wp2
              go_loopw [62] (fun jv wi => ∃ j : Nat, jv = .int .i64 j ∧ j ≤ lb.length ∧ Hid (∀ m : Nat, m < j → (findS (lb.take m) ((lb.getD m z38).f0)).isSome = false) ∧ Hid (Below Wa.heap.size Wa wi)) (fun jv _ => lb.length - (intOf jv).toNat)
              case atStart => exact ⟨0, rfl, by omega, Lib.hid (by intro m hm; omega), Lib.hid (Below.refl _ _)⟩
              case round =>
                obtain ⟨j, rfl, hj, HF, HZ⟩ := hrel
                by_cases hlt : j < lb.length
                · have hlt2 : j < lb.length := by have := HC4.out.1; omega
                  obtain ⟨p, hp⟩ : ∃ p, lb[j]'hlt2 = p := ⟨_, rfl⟩
                  have hlt' : decide ((j : Int) < (lb.length : Int)) = true := decide_eq_true (by omega)
                  obtain ⟨ad, e0, y0, y1⟩ := at_T38 (Kd.C_below HC4.out HZ.out) (j : Int) (by omega) (by omega)
                  cases e0
                  rw [rdSp_nat lb _ hlt2, hp] at y0 y1
                  simp only [Int.toNat_natCast] at y0 y1
                  have hgd : lb.getD j z38 = p := by rw [List.getD_eq_getElem?_getD, List.getElem?_eq_getElem hlt2, hp]; rfl
                  have z0 : (0 : Int) ≤ (j : Int) := by omega
                  have zN : j ≤ lb.length := by omega
                  have hjc : j ≤ cb := by have := HL_1.out; omega
                  go_upto_region 18 with (first
                    | ((with_reducible refine gate_dst (N := 15) rfl ?_); refine box_event ?hg (N := 15) ?hd (cs := #[.string (⟨#[]⟩ : ByteArray), .string (⟨#[]⟩ : ByteArray)]) (t := 38) ?hr ?_; (case hd => rfl); (case hg => rfl); (case hr => first | (go_simp; done) | (go_simp; rfl)); intro gb hg wb hbox hb; have HN := Lib.hid (show Below wr.heap.size wr wb from hb); have GE := Lib.hid (show wr.heap.size ≤ gb by rw [hg]; exact Nat.le_refl _); have BK := Lib.hid hbox; clear hb hbox hg; have b0 : wb.cell? ⟨gb, 0, none⟩ = some (.string (⟨#[]⟩ : ByteArray)) := (blk_cell BK.out 0).trans rfl; have b1 : wb.cell? ⟨gb, 1, none⟩ = some (.string (⟨#[]⟩ : ByteArray)) := (blk_cell BK.out 1).trans rfl; have f0 := blk_frozen BK.out 0; have f1 := blk_frozen BK.out 1))
                  obtain ⟨W5, hW5⟩ : ∃ W, W = (wb.setCell ⟨gb, 0, none⟩ (.string p.f0)).setCell ⟨gb, 1, none⟩ (.string p.f1) := ⟨_, rfl⟩
                  rw [← hW5]
                  have HN5 := Lib.hid (show Below wr.heap.size wr W5 by rw [hW5]; exact (by with_reducible repeat (first | exact HN.out | apply below_alloc | apply pw_below_drewN | apply below_drew1 | refine below_set ?_ GE.out)))
                  have c0_ : W5.drew.cell? ⟨gb, 0, none⟩ = some (.string p.f0) := by rw [hW5]; first | (go_simp; done) | (simp; done)
                  have c1_ : W5.cell? ⟨gb, 1, none⟩ = some (.string p.f1) := by rw [hW5]; first | (go_simp; done) | (simp; done)
                  clear hW5 HN BK b0 b1 f0 f1 y0 y1
                  obtain ⟨fv, hfv⟩ : ∃ b, (findS (lb.take j) p.f0).isSome = b := ⟨_, rfl⟩
                  have HV := Lib.hid (show ∀ W, Below W5.heap.size W5 W → Calls Try.prog 32 #[.slice (some ad) j cb, .string p.f0] W fun e w' => e = .returned (.tuple #[.string (valR (lb.take j) p.f0), .bool fv]) ∧ Below W.heap.size W w' from by
                    intro W hW
                    have hC := HC4.out
                    have hlN : lb.length = lb.length := hC.1
                    rw [← hlN] at hC
                    have h1 := Kd.C_take (Kd.C_below (Kd.C_below (Kd.C_below hC HZ.out) HN5.out) hW) (show j ≤ lb.length by omega)
                    have h2 := valueOf_calls (some ad) cb (lb.take j) p.f0 W h1 (by rw [List.length_take]; have := HL_1.out; omega) (hlb.take j)
                    rw [List.length_take, Nat.min_eq_left (by omega), hfv] at h2
                    exact h2)
                  refine start_ (n := 11) (S := fun w' => w'.cell? ⟨gb, 0, none⟩ = some (.string p.f0)) (ds := []) #[false,false,false,false,false,false,false,false,false,false,false] (by kernel_rfl) rfl rfl c0_ (fun hHeld => ?_)
                  generalize hWd : World.drew W5 = W2_ at hHeld ⊢
                  refine pure_ (i := 0) (N := some 68) (v := ?_) (a' := ?_) #[true,false,false,false,false,false,false,false,false,false,false] rfl rfl (by kernel_rfl) (fun _ _ _ h => h) (Or.inl ⟨by rfl, ?_⟩) ?_ ?_
                  rotate_left
                  · intro w'
                    go_simp
                    with_reducible rfl
                  rotate_left
                  · simp only [Act.put, List.setIfInBounds_toArray, List.set_cons_zero, List.set_cons_succ, i64_w, i32_w]
                    rfl
                  refine pure_ (i := 1) (N := some 69) (v := ?_) (a' := ?_) #[true,true,false,false,false,false,false,false,false,false,false] rfl rfl (by kernel_rfl) (fun _ _ _ h => h) (Or.inl ⟨by rfl, ?_⟩) ?_ ?_
                  rotate_left
                  · intro w'
                    go_simp
                    with_reducible rfl
                  rotate_left
                  · simp only [Act.put, List.setIfInBounds_toArray, List.set_cons_zero, List.set_cons_succ, i64_w, i32_w]
                    rfl
                  refine pure_ (i := 2) (N := some 70) (v := ?_) (a' := ?_) #[true,true,true,false,false,false,false,false,false,false,false] rfl rfl (by kernel_rfl) (fun _ _ _ h => h) (Or.inl ⟨by rfl, ?_⟩) ?_ ?_
                  rotate_left
                  · intro w'
                    go_simp
                    with_reducible rfl
                  rotate_left
                  · simp only [Act.put, List.setIfInBounds_toArray, List.set_cons_zero, List.set_cons_succ, i64_w, i32_w]
                    rfl
                  refine pure_ (i := 3) (N := some 71) (v := ?_) (a' := ?_) #[true,true,true,true,false,false,false,false,false,false,false] rfl rfl (by kernel_rfl) (fun _ _ _ h => h) (Or.inl ⟨by rfl, ?_⟩) ?_ ?_
                  rotate_left
                  · intro w'
                    go_simp
                    with_reducible rfl
                  rotate_left
                  · simp only [Act.put, List.setIfInBounds_toArray, List.set_cons_zero, List.set_cons_succ, i64_w, i32_w]
                    rfl
                  refine take_ (i := 4) (N := some 72) (v := ?_) (a' := ?_) #[true,true,true,true,true,false,false,false,false,false,false] rfl rfl (by kernel_rfl) (fun _ _ _ h => h) (Or.inl ⟨by rfl, ?_⟩) hHeld ?_ ?_
                  rotate_left
                  · rintro w' s0
                    go_simp
                    with_reducible rfl
                  rotate_left
                  · simp only [Act.put, List.setIfInBounds_toArray, List.set_cons_zero, List.set_cons_succ, i64_w, i32_w]
                    rfl
                  refine one_ (i := 5) (N := some 73) #[true,true,true,true,true,true,false,false,false,false,false] rfl rfl (by kernel_rfl) (by decide) (fun K hK => ?_)
                  refine goes_ Try.func32 (by kernel_rfl) rfl #[.slice (some ad) j cb, .string p.f0] (by rfl) rfl rfl (by (try simp only [List.map_toArray, List.map_cons, List.map_nil]); first | done | rfl) ?_
                  with_reducible refine (HV.out _ (by rw [← hWd]; exact below_drew1 (Below.refl _ _))).mono ?_
                  rintro e w6 ⟨rfl, hb6⟩
                  have HY6 := Lib.hid (show Below W5.heap.size W5 w6 from by rw [← hWd] at hb6; exact (below_drew1 (Below.refl _ _)).trans hb6)
                  refine ⟨_, rfl, ?_⟩
                  refine hK.out _ _ ((hb6.cell (World.block_lt_of_cell? _ _ hHeld)).trans hHeld) (fun hHeld => ?_)
                  clear hK K
                  refine norm_ (a' := ?_) ?_ ?_
                  rotate_left
                  · show Act.put _ (some 73) _ = _
                    simp only [Act.put, List.setIfInBounds_toArray, List.set_cons_zero, List.set_cons_succ, i64_w, i32_w]
                    rfl
                  refine pure_ (i := 6) (N := some 67) (v := ?_) (a' := ?_) #[true,true,true,true,true,true,true,false,false,false,false] rfl rfl (by kernel_rfl) (fun _ _ _ h => h) (Or.inl ⟨by rfl, ?_⟩) ?_ ?_
                  rotate_left
                  · intro w'
                    go_simp
                    with_reducible rfl
                  rotate_left
                  · simp only [Act.put, List.setIfInBounds_toArray, List.set_cons_zero, List.set_cons_succ, i64_w, i32_w]
                    rfl
                  refine pure_ (i := 7) (N := some 74) (v := ?_) (a' := ?_) #[true,true,true,true,true,true,true,true,false,false,false] rfl rfl (by kernel_rfl) (fun _ _ _ h => h) (Or.inl ⟨by rfl, ?_⟩) ?_ ?_
                  rotate_left
                  · intro w'
                    go_simp
                    with_reducible rfl
                  rotate_left
                  · simp only [Act.put, List.setIfInBounds_toArray, List.set_cons_zero, List.set_cons_succ, i64_w, i32_w]
                    rfl
                  refine pure_ (i := 8) (N := some 75) (v := ?_) (a' := ?_) #[true,true,true,true,true,true,true,true,true,false,false] rfl rfl (by kernel_rfl) (fun _ _ _ h => h) (Or.inl ⟨by rfl, ?_⟩) ?_ ?_
                  rotate_left
                  · intro w'
                    go_simp
                    with_reducible rfl
                  rotate_left
                  · simp only [Act.put, List.setIfInBounds_toArray, List.set_cons_zero, List.set_cons_succ, i64_w, i32_w]
                    rfl
                  refine pure_ (i := 9) (N := some 16) (v := ?_) (a' := ?_) #[true,true,true,true,true,true,true,true,true,true,false] rfl rfl (by kernel_rfl) (fun _ _ _ h => h) (Or.inl ⟨by rfl, ?_⟩) ?_ ?_
                  rotate_left
                  · intro w'
                    go_simp
                    with_reducible rfl
                  rotate_left
                  · simp only [Act.put, List.setIfInBounds_toArray, List.set_cons_zero, List.set_cons_succ, i64_w, i32_w]
                    rfl
                  refine pure_ (i := 10) (N := some 17) (v := ?_) (a' := ?_) #[true,true,true,true,true,true,true,true,true,true,true] rfl rfl (by kernel_rfl) (fun _ _ _ h => h) (Or.inl ⟨by rfl, ?_⟩) ?_ ?_
                  rotate_left
                  · intro w'
                    go_simp
                    with_reducible rfl
                  rotate_left
                  · simp only [Act.put, List.setIfInBounds_toArray, List.set_cons_zero, List.set_cons_succ, i64_w, i32_w]
                    rfl
                  refine done_ (by kernel_rfl) ?_
                  cases fv with
                  | true =>
                    go_wp2
                    go_ret
                    refine ⟨?_, below_step HBW.out (below_step HN4.out (below_step HY.out (below_step HZ.out (below_step HN5.out HY6.out))))⟩
                    rw [pmS, if_pos (.inr (dupS_true hlt2 (by rw [hgd]; exact hfv)))]
                    rfl
                  | false =>
                    go_wp2
                    exact ⟨⟨j + 1, by simp, by omega, Lib.hid (by
                      intro m hm
                      rcases Nat.lt_or_ge m j with h | h
                      · exact HF.out m h
                      · obtain rfl : m = j := by omega
                        rw [hgd]; exact hfv), Lib.hid (below_step HZ.out (below_step HN5.out HY6.out))⟩, by simp [intOf]; omega⟩
                · obtain rfl : lb.length = j := by omega
                  have hq_ : ¬ (lb.length : Int) < (lb.length : Int) := by omega
                  have hD : dupS lb = false := dupS_false (by have := HC4.out.1; rw [this]; exact HF.out)
                  go_wp2
                  exact ⟨⟨.inr (.inr ⟨rfl, D0, Lib.hid hD⟩), Lib.hid (below_step HY.out HZ.out)⟩, by simp [intOf]⟩
            · go_wp2
              have hpm := Lib.hid <| show pmS la lb = if X.all (hitS lb) = true then 1 else 0 by
                rw [pmS, hX.out, if_neg (fun h => h.elim (by rw [D0.out]; simp) (by rw [D1.out]; simp))]
              go_loopw [81] (fun iv wi => ∃ m : Nat, iv = .int .i64 m ∧ m ≤ i ∧ Hid (∀ q ∈ X.take m, hitS lb q = true) ∧ Hid (Below Wa.heap.size Wa wi)) (fun iv _ => i - (intOf iv).toNat)
              case atStart => exact ⟨0, rfl, by omega, Lib.hid (by simp), Lib.hid (Below.refl _ _)⟩
              case round =>
                obtain ⟨m, rfl, hm, HF, HZ⟩ := hrel
                by_cases hlt : m < i
                · have hlt2 : m < X.length := by have := HC3.out.1; omega
                  obtain ⟨p, hp⟩ : ∃ p, X[m]'hlt2 = p := ⟨_, rfl⟩
                  have hlt' : decide ((m : Int) < (i : Int)) = true := decide_eq_true (by omega)
                  obtain ⟨ad, e0, y0, y1⟩ := at_T38 (Kd.C_below HC3.out HZ.out) (m : Int) (by omega) (by omega)
                  cases e0
                  rw [rdSp_nat X _ hlt2, hp] at y0 y1
                  simp only [Int.toNat_natCast] at y0 y1
                  have hmem : p ∈ X := by rw [← hp]; exact List.getElem_mem hlt2
                  have ht : X.take (m + 1) = X.take m ++ [p] := by rw [List.take_succ_eq_append_getElem hlt2, hp]
                  cases hf : findS lb p.f0 with
                  | none =>
                    have hval : valR lb p.f0 = ⟨#[]⟩ := by rw [valR, hf]
                    have his : (findS lb p.f0).isSome = false := by rw [hf]; rfl
                    have hno : hitS lb p = false := by rw [hitS, hf]
                    have HNO := Lib.hid hno
                    clear hf hno
                    go_wp2_with (first
                      | ((with_reducible refine gate_dst (N := 19) rfl ?_); refine box_event ?hg (N := 19) ?hd (cs := #[.string (⟨#[]⟩ : ByteArray), .string (⟨#[]⟩ : ByteArray)]) (t := 38) ?hr ?_; (case hd => rfl); (case hg => rfl); (case hr => first | (go_simp; done) | (go_simp; rfl)); intro gb hg wb hbox hb; have HN := Lib.hid (show Below wr.heap.size wr wb from hb); have GE := Lib.hid (show wr.heap.size ≤ gb by rw [hg]; exact Nat.le_refl _); have BK := Lib.hid hbox; clear hb hbox hg; have b0 : wb.cell? ⟨gb, 0, none⟩ = some (.string (⟨#[]⟩ : ByteArray)) := (blk_cell BK.out 0).trans rfl; have b1 : wb.cell? ⟨gb, 1, none⟩ = some (.string (⟨#[]⟩ : ByteArray)) := (blk_cell BK.out 1).trans rfl; have f0 := blk_frozen BK.out 0; have f1 := blk_frozen BK.out 1)
                      | (go_at_call 32; have d0 : ((wb.setCell ⟨gb, 0, none⟩ (.string p.f0)).setCell ⟨gb, 1, none⟩ (.string p.f1)).cell? ⟨gb, 1, none⟩ = some (.string p.f1) := (by first | (go_simp; done) | (simp; done)); (with_reducible refine (valueOf_calls Ab cb lb p.f0 _ (Kd.C_below (Kd.C_below HC4.out HZ.out) (by with_reducible repeat (first | exact HN.out | apply below_alloc | apply pw_below_drewN | apply below_drew1 | refine below_set ?_ GE.out))) HL_1.out hlb).mono ?_); rintro e w6 ⟨rfl, hb6⟩; have HY6 := Lib.hid (below_step (by with_reducible repeat (first | exact HN.out | apply below_alloc | apply pw_below_drewN | apply below_drew1 | refine below_set ?_ GE.out)) hb6); have d1 : w6.cell? ⟨gb, 1, none⟩ = some (.string p.f1) := (hb6.cell (World.block_lt_of_cell? _ _ d0)).trans d0; clear hb6; rw [hval, his]))
                    go_ret
                    refine ⟨?_, below_step HBW.out (below_step HN4.out (below_step HY.out (below_step HZ.out HY6.out)))⟩
                    rw [hpm.out, if_neg (fun h => by have := List.all_eq_true.1 h p hmem; rw [HNO.out] at this; cases this)]
                    rfl
                  | some q =>
                    have hval : valR lb p.f0 = q.f1 := by rw [valR, hf]
                    have his : (findS lb p.f0).isSome = true := by rw [hf]; rfl
                    have hqz : q.f1.size ≤ 1099511627776 := (hlb.2 q (List.mem_of_find?_eq_some hf)).2
                    have hhit : hitS lb p = eqFold q.f1 p.f1 := by rw [hitS, hf]
                    have HHIT := Lib.hid hhit
                    clear hf hhit
                    cases hb : eqFold q.f1 p.f1 with
                    | false =>
                      go_wp2_with (first
                        | ((with_reducible refine gate_dst (N := 19) rfl ?_); refine box_event ?hg (N := 19) ?hd (cs := #[.string (⟨#[]⟩ : ByteArray), .string (⟨#[]⟩ : ByteArray)]) (t := 38) ?hr ?_; (case hd => rfl); (case hg => rfl); (case hr => first | (go_simp; done) | (go_simp; rfl)); intro gb hg wb hbox hb; have HN := Lib.hid (show Below wr.heap.size wr wb from hb); have GE := Lib.hid (show wr.heap.size ≤ gb by rw [hg]; exact Nat.le_refl _); have BK := Lib.hid hbox; clear hb hbox hg; have b0 : wb.cell? ⟨gb, 0, none⟩ = some (.string (⟨#[]⟩ : ByteArray)) := (blk_cell BK.out 0).trans rfl; have b1 : wb.cell? ⟨gb, 1, none⟩ = some (.string (⟨#[]⟩ : ByteArray)) := (blk_cell BK.out 1).trans rfl; have f0 := blk_frozen BK.out 0; have f1 := blk_frozen BK.out 1)
                        | (go_at_call 32; have d0 : ((wb.setCell ⟨gb, 0, none⟩ (.string p.f0)).setCell ⟨gb, 1, none⟩ (.string p.f1)).cell? ⟨gb, 1, none⟩ = some (.string p.f1) := (by first | (go_simp; done) | (simp; done)); (with_reducible refine (valueOf_calls Ab cb lb p.f0 _ (Kd.C_below (Kd.C_below HC4.out HZ.out) (by with_reducible repeat (first | exact HN.out | apply below_alloc | apply pw_below_drewN | apply below_drew1 | refine below_set ?_ GE.out))) HL_1.out hlb).mono ?_); rintro e w6 ⟨rfl, hb6⟩; have HY6 := Lib.hid (below_step (by with_reducible repeat (first | exact HN.out | apply below_alloc | apply pw_below_drewN | apply below_drew1 | refine below_set ?_ GE.out)) hb6); have d1 : w6.cell? ⟨gb, 1, none⟩ = some (.string p.f1) := (hb6.cell (World.block_lt_of_cell? _ _ d0)).trans d0; clear hb6; rw [hval, his])
                        | (go_at_call 31; (with_reducible refine (same_calls q.f1 p.f1 _ hqz).mono ?_); rintro e w7 ⟨rfl, ⟨nd, rfl⟩⟩; rw [hb]))
                      go_ret
                      refine ⟨?_, below_step HBW.out (below_step HN4.out (below_step HY.out (below_step HZ.out (pw_below_drewN HY6.out _))))⟩
                      rw [hpm.out, if_neg (fun h => by have := List.all_eq_true.1 h p hmem; rw [HHIT.out, hb] at this; cases this)]
                      rfl
                    | true =>
                      go_wp2_with (first
                        | ((with_reducible refine gate_dst (N := 19) rfl ?_); refine box_event ?hg (N := 19) ?hd (cs := #[.string (⟨#[]⟩ : ByteArray), .string (⟨#[]⟩ : ByteArray)]) (t := 38) ?hr ?_; (case hd => rfl); (case hg => rfl); (case hr => first | (go_simp; done) | (go_simp; rfl)); intro gb hg wb hbox hb; have HN := Lib.hid (show Below wr.heap.size wr wb from hb); have GE := Lib.hid (show wr.heap.size ≤ gb by rw [hg]; exact Nat.le_refl _); have BK := Lib.hid hbox; clear hb hbox hg; have b0 : wb.cell? ⟨gb, 0, none⟩ = some (.string (⟨#[]⟩ : ByteArray)) := (blk_cell BK.out 0).trans rfl; have b1 : wb.cell? ⟨gb, 1, none⟩ = some (.string (⟨#[]⟩ : ByteArray)) := (blk_cell BK.out 1).trans rfl; have f0 := blk_frozen BK.out 0; have f1 := blk_frozen BK.out 1)
                        | (go_at_call 32; have d0 : ((wb.setCell ⟨gb, 0, none⟩ (.string p.f0)).setCell ⟨gb, 1, none⟩ (.string p.f1)).cell? ⟨gb, 1, none⟩ = some (.string p.f1) := (by first | (go_simp; done) | (simp; done)); (with_reducible refine (valueOf_calls Ab cb lb p.f0 _ (Kd.C_below (Kd.C_below HC4.out HZ.out) (by with_reducible repeat (first | exact HN.out | apply below_alloc | apply pw_below_drewN | apply below_drew1 | refine below_set ?_ GE.out))) HL_1.out hlb).mono ?_); rintro e w6 ⟨rfl, hb6⟩; have HY6 := Lib.hid (below_step (by with_reducible repeat (first | exact HN.out | apply below_alloc | apply pw_below_drewN | apply below_drew1 | refine below_set ?_ GE.out)) hb6); have d1 : w6.cell? ⟨gb, 1, none⟩ = some (.string p.f1) := (hb6.cell (World.block_lt_of_cell? _ _ d0)).trans d0; clear hb6; rw [hval, his])
                        | (go_at_call 31; (with_reducible refine (same_calls q.f1 p.f1 _ hqz).mono ?_); rintro e w7 ⟨rfl, ⟨nd, rfl⟩⟩; rw [hb]))
                      exact ⟨⟨m + 1, by simp, by omega, Lib.hid (by
                        rw [ht]
                        intro q2 hq2
                        rcases List.mem_append.1 hq2 with h | h
                        · exact HF.out q2 h
                        · rw [List.mem_singleton] at h; rw [h, HHIT.out]; exact hb), Lib.hid (below_step HZ.out (pw_below_drewN HY6.out _))⟩, by simp [intOf]; omega⟩
                · obtain rfl : i = m := by omega
                  have hq_ : ¬ (i : Int) < (i : Int) := by omega
                  have hNX : X.length = i := HC3.out.1
                  have HNX := Lib.hid hNX
                  clear hNX hlt
                  go_wp2
                  go_ret
                  refine ⟨?_, below_step HBW.out (below_step HN4.out (below_step HY.out HZ.out))⟩
                  rw [hpm.out, if_pos (List.all_eq_true.2 (by have h := HF.out; rw [List.take_of_length_le (by have := HC3.out.1; omega)] at h; exact h))]
                  rfl
        · go_wp2_with (first
            | ((with_reducible refine gate_dst (N := 11) rfl ?_); refine box_event ?hg (N := 11) ?hd (cs := #[.string (⟨#[]⟩ : ByteArray), .string (⟨#[]⟩ : ByteArray)]) (t := 38) ?hr ?_; (case hd => rfl); (case hg => rfl); (case hr => first | (go_simp; done) | (go_simp; rfl)); intro gb hg wb hbox hb; have HN := Lib.hid (show Below wr.heap.size wr wb from hb); have GE := Lib.hid (show wr.heap.size ≤ gb by rw [hg]; exact Nat.le_refl _); have BK := Lib.hid hbox; clear hb hbox hg; have b0 : wb.cell? ⟨gb, 0, none⟩ = some (.string (⟨#[]⟩ : ByteArray)) := (blk_cell BK.out 0).trans rfl; have b1 : wb.cell? ⟨gb, 1, none⟩ = some (.string (⟨#[]⟩ : ByteArray)) := (blk_cell BK.out 1).trans rfl; have f0 := blk_frozen BK.out 0; have f1 := blk_frozen BK.out 1)
            | (go_at_call 31; (with_reducible refine (same_calls p.f0 qS _ hpz).mono ?_); rintro e w4 ⟨rfl, ⟨nd, rfl⟩⟩; rw [Bool.eq_false_iff.2 hq])
            | (
               at_builtin
               refine Kd.R_append k38 (w0 := w2) w2.heap.size rfl (.tmp 47) (.tmp 49) 30 38 (.agg #[(.string ⟨#[]⟩), (.string ⟨#[]⟩)]) 32 rfl Try.underlying30 info38 rfl (by decide) (by omega) _ (la.take i) p [.string p.f0, .string p.f1] (fun _ => True) (fun _ => False) rfl (by first | (go_simp; done) | (go_simp; rfl)) ?aP (fun _ h => h.elim) ?aF ?aO ?aB ?aS ?aL ?_
               (case aP => exact k38_mkM _ _ _ p)
               (case aF => exact fun _ _ => trivial)
               (case aO => exact Kd.R_below HR.out (by with_reducible repeat (first | exact HN.out | apply below_alloc | apply pw_below_drewN | apply below_drew1 | refine below_set ?_ GE.out)))
               (case aB => exact below_step HX.out (by with_reducible repeat (first | exact HN.out | apply below_alloc | apply pw_below_drewN | apply below_drew1 | refine below_set ?_ GE.out)))
               (case aS => exact (below_step HX.out (by with_reducible repeat (first | exact HN.out | apply below_alloc | apply pw_below_drewN | apply below_drew1 | refine below_set ?_ GE.out))).size)
               (case aL => first | omega | (rw [List.length_take]; omega))
               intro v9 w9 ho9 hb9 hg9 hat9
               have HO9 := Lib.hid ho9
               have HB9 := Lib.hid hb9
               clear ho9 hb9 hg9 hat9))
          exact ⟨⟨i + 1, by simp, by omega, Lib.hid (by rw [ht]; exact HO9.out), Lib.hid (by rw [ht]; intro q hq2; rcases List.mem_append.1 hq2 with hq2 | hq2; exact HNO.out q hq2; rw [List.mem_singleton] at hq2; rw [hq2]; exact hq), Lib.hid HB9.out⟩, by simp [intOf]; omega⟩
      · obtain rfl : i = la.length := by omega
        have hq_ : ¬ (la.length : Int) < (la.length : Int) := by omega
        have hX : wantS la = la.take la.length := want_all la (fun q hq2 => HNO.out q (by rw [List.take_length]; exact hq2))
        obtain ⟨W3, hW3⟩ : ∃ W, W = wr := ⟨_, rfl⟩
        have HN3 := Lib.hid (show Below wr.heap.size wr W3 by rw [hW3]; exact Below.refl _ _)
        go_upto_region 12 with fail
        rw [← hW3]
        clear hW3
        have hXl : (la.take la.length).length = la.length := by rw [List.length_take]; omega
        obtain ⟨X, hXd⟩ : ∃ X, la.take la.length = X := ⟨_, rfl⟩
        have sX := hla.take la.length
        rw [hXd] at hX HCX hXl sX
        have hX := Lib.hid hX
        have HC1 := Lib.hid (Kd.C_below HCX.out HN3.out)
        have HC2 := Lib.hid (Kd.C_below HCB.out (below_step HX.out HN3.out))
        have HBW := Lib.hid (below_step HB2.out (below_step HX.out HN3.out))
        have HL_0 := HLX
        have HL_1 := HLB
        clear hXd HN3 HCX HCB HX HR HNO HCA2 HB2 hXl
        go_wp2
        obtain ⟨W4, hW4⟩ : ∃ W, W = W3.alloc (.cells #[.slice Ax la.length cx, .slice Ab lb.length cb] 30) := ⟨_, rfl⟩
        rw [← hW4]
        have HN4 := Lib.hid (show Below W3.heap.size W3 W4 by rw [hW4]; exact below_alloc (Below.refl _ _) _)
        have k0 : W4.cell? ⟨W3.heap.size, 0, none⟩ = some (.slice Ax la.length cx) := by rw [hW4]; first | (go_simp; done) | (simp; done)
        have k1 : W4.cell? ⟨W3.heap.size, 1, none⟩ = some (.slice Ab lb.length cb) := by rw [hW4]; first | (go_simp; done) | (simp; done)
        have K0 := Lib.hid k0
        have K1 := Lib.hid k1
        clear hW4 k0 k1
        go_loopw [56] (fun kv wk => (kv = .int .i64 0 ∨ (kv = .int .i64 1 ∧ Hid (dupS X = false)) ∨ (kv = .int .i64 2 ∧ Hid (dupS X = false) ∧ Hid (dupS lb = false))) ∧ Hid (Below W4.heap.size W4 wk)) (fun kv _ => 2 - (intOf kv).toNat)
        case atStart => exact ⟨.inl rfl, Lib.hid (Below.refl _ _)⟩
        case round =>
          obtain ⟨hcase, HY⟩ := hrel
          obtain ⟨Wa, rfl⟩ : ∃ W, W = wr := ⟨_, rfl⟩
          have q0 : Wa.cell? ⟨W3.heap.size, 0, none⟩ = some (.slice Ax la.length cx) := (HY.out.cell (World.block_lt_of_cell? _ _ K0.out)).trans K0.out
          have q1 : Wa.cell? ⟨W3.heap.size, 1, none⟩ = some (.slice Ab lb.length cb) := (HY.out.cell (World.block_lt_of_cell? _ _ K1.out)).trans K1.out
          have HC3 := Lib.hid (Kd.C_below (Kd.C_below HC1.out HN4.out) HY.out)
          have HC4 := Lib.hid (Kd.C_below (Kd.C_below HC2.out HN4.out) HY.out)
          obtain rfl | ⟨rfl, D0⟩ | ⟨rfl, D0, D1⟩ := hcase
          · go_wp2
            go_loopw [62] (fun jv wi => ∃ j : Nat, jv = .int .i64 j ∧ j ≤ la.length ∧ Hid (∀ m : Nat, m < j → (findS (X.take m) ((X.getD m z38).f0)).isSome = false) ∧ Hid (Below Wa.heap.size Wa wi)) (fun jv _ => la.length - (intOf jv).toNat)
            case atStart => exact ⟨0, rfl, by omega, Lib.hid (by intro m hm; omega), Lib.hid (Below.refl _ _)⟩
            case round =>
              obtain ⟨j, rfl, hj, HF, HZ⟩ := hrel
              by_cases hlt : j < la.length
              · have hlt2 : j < X.length := by have := HC3.out.1; omega
                obtain ⟨p, hp⟩ : ∃ p, X[j]'hlt2 = p := ⟨_, rfl⟩
                have hlt' : decide ((j : Int) < (la.length : Int)) = true := decide_eq_true (by omega)
                obtain ⟨ad, e0, y0, y1⟩ := at_T38 (Kd.C_below HC3.out HZ.out) (j : Int) (by omega) (by omega)
                cases e0
                rw [rdSp_nat X _ hlt2, hp] at y0 y1
                simp only [Int.toNat_natCast] at y0 y1
                have hgd : X.getD j z38 = p := by rw [List.getD_eq_getElem?_getD, List.getElem?_eq_getElem hlt2, hp]; rfl
                have z0 : (0 : Int) ≤ (j : Int) := by omega
                have zN : j ≤ la.length := by omega
                have hjc : j ≤ cx := by have := HL_0.out; omega
                go_upto_region 18 with (first
                  | ((with_reducible refine gate_dst (N := 15) rfl ?_); refine box_event ?hg (N := 15) ?hd (cs := #[.string (⟨#[]⟩ : ByteArray), .string (⟨#[]⟩ : ByteArray)]) (t := 38) ?hr ?_; (case hd => rfl); (case hg => rfl); (case hr => first | (go_simp; done) | (go_simp; rfl)); intro gb hg wb hbox hb; have HN := Lib.hid (show Below wr.heap.size wr wb from hb); have GE := Lib.hid (show wr.heap.size ≤ gb by rw [hg]; exact Nat.le_refl _); have BK := Lib.hid hbox; clear hb hbox hg; have b0 : wb.cell? ⟨gb, 0, none⟩ = some (.string (⟨#[]⟩ : ByteArray)) := (blk_cell BK.out 0).trans rfl; have b1 : wb.cell? ⟨gb, 1, none⟩ = some (.string (⟨#[]⟩ : ByteArray)) := (blk_cell BK.out 1).trans rfl; have f0 := blk_frozen BK.out 0; have f1 := blk_frozen BK.out 1))
                obtain ⟨W5, hW5⟩ : ∃ W, W = (wb.setCell ⟨gb, 0, none⟩ (.string p.f0)).setCell ⟨gb, 1, none⟩ (.string p.f1) := ⟨_, rfl⟩
                rw [← hW5]
                have HN5 := Lib.hid (show Below wr.heap.size wr W5 by rw [hW5]; exact (by with_reducible repeat (first | exact HN.out | apply below_alloc | apply pw_below_drewN | apply below_drew1 | refine below_set ?_ GE.out)))
                have c0_ : W5.drew.cell? ⟨gb, 0, none⟩ = some (.string p.f0) := by rw [hW5]; first | (go_simp; done) | (simp; done)
                have c1_ : W5.cell? ⟨gb, 1, none⟩ = some (.string p.f1) := by rw [hW5]; first | (go_simp; done) | (simp; done)
                clear hW5 HN BK b0 b1 f0 f1 y0 y1
                obtain ⟨fv, hfv⟩ : ∃ b, (findS (X.take j) p.f0).isSome = b := ⟨_, rfl⟩
                have HV := Lib.hid (show ∀ W, Below W5.heap.size W5 W → Calls Try.prog 32 #[.slice (some ad) j cx, .string p.f0] W fun e w' => e = .returned (.tuple #[.string (valR (X.take j) p.f0), .bool fv]) ∧ Below W.heap.size W w' from by
                  intro W hW
                  have hC := HC3.out
                  have hlN : X.length = la.length := hC.1
                  rw [← hlN] at hC
                  have h1 := Kd.C_take (Kd.C_below (Kd.C_below (Kd.C_below hC HZ.out) HN5.out) hW) (show j ≤ X.length by omega)
                  have h2 := valueOf_calls (some ad) cx (X.take j) p.f0 W h1 (by rw [List.length_take]; have := HL_0.out; omega) (sX.take j)
                  rw [List.length_take, Nat.min_eq_left (by omega), hfv] at h2
                  exact h2)
                refine start_ (n := 11) (S := fun w' => w'.cell? ⟨gb, 0, none⟩ = some (.string p.f0)) (ds := []) #[false,false,false,false,false,false,false,false,false,false,false] (by kernel_rfl) rfl rfl c0_ (fun hHeld => ?_)
                generalize hWd : World.drew W5 = W2_ at hHeld ⊢
                refine pure_ (i := 0) (N := some 68) (v := ?_) (a' := ?_) #[true,false,false,false,false,false,false,false,false,false,false] rfl rfl (by kernel_rfl) (fun _ _ _ h => h) (Or.inl ⟨by rfl, ?_⟩) ?_ ?_
                rotate_left
                · intro w'
                  go_simp
                  with_reducible rfl
                rotate_left
                · simp only [Act.put, List.setIfInBounds_toArray, List.set_cons_zero, List.set_cons_succ, i64_w, i32_w]
                  rfl
                refine pure_ (i := 1) (N := some 69) (v := ?_) (a' := ?_) #[true,true,false,false,false,false,false,false,false,false,false] rfl rfl (by kernel_rfl) (fun _ _ _ h => h) (Or.inl ⟨by rfl, ?_⟩) ?_ ?_
                rotate_left
                · intro w'
                  go_simp
                  with_reducible rfl
                rotate_left
                · simp only [Act.put, List.setIfInBounds_toArray, List.set_cons_zero, List.set_cons_succ, i64_w, i32_w]
                  rfl
                refine pure_ (i := 2) (N := some 70) (v := ?_) (a' := ?_) #[true,true,true,false,false,false,false,false,false,false,false] rfl rfl (by kernel_rfl) (fun _ _ _ h => h) (Or.inl ⟨by rfl, ?_⟩) ?_ ?_
                rotate_left
                · intro w'
                  go_simp
                  with_reducible rfl
                rotate_left
                · simp only [Act.put, List.setIfInBounds_toArray, List.set_cons_zero, List.set_cons_succ, i64_w, i32_w]
                  rfl
                refine pure_ (i := 3) (N := some 71) (v := ?_) (a' := ?_) #[true,true,true,true,false,false,false,false,false,false,false] rfl rfl (by kernel_rfl) (fun _ _ _ h => h) (Or.inl ⟨by rfl, ?_⟩) ?_ ?_
                rotate_left
                · intro w'
                  go_simp
                  with_reducible rfl
                rotate_left
                · simp only [Act.put, List.setIfInBounds_toArray, List.set_cons_zero, List.set_cons_succ, i64_w, i32_w]
                  rfl
                refine take_ (i := 4) (N := some 72) (v := ?_) (a' := ?_) #[true,true,true,true,true,false,false,false,false,false,false] rfl rfl (by kernel_rfl) (fun _ _ _ h => h) (Or.inl ⟨by rfl, ?_⟩) hHeld ?_ ?_
                rotate_left
                · rintro w' s0
                  go_simp
                  with_reducible rfl
                rotate_left
                · simp only [Act.put, List.setIfInBounds_toArray, List.set_cons_zero, List.set_cons_succ, i64_w, i32_w]
                  rfl
                refine one_ (i := 5) (N := some 73) #[true,true,true,true,true,true,false,false,false,false,false] rfl rfl (by kernel_rfl) (by decide) (fun K hK => ?_)
                refine goes_ Try.func32 (by kernel_rfl) rfl #[.slice (some ad) j cx, .string p.f0] (by rfl) rfl rfl (by (try simp only [List.map_toArray, List.map_cons, List.map_nil]); first | done | rfl) ?_
                with_reducible refine (HV.out _ (by rw [← hWd]; exact below_drew1 (Below.refl _ _))).mono ?_
                rintro e w6 ⟨rfl, hb6⟩
                have HY6 := Lib.hid (show Below W5.heap.size W5 w6 from by rw [← hWd] at hb6; exact (below_drew1 (Below.refl _ _)).trans hb6)
                refine ⟨_, rfl, ?_⟩
                refine hK.out _ _ ((hb6.cell (World.block_lt_of_cell? _ _ hHeld)).trans hHeld) (fun hHeld => ?_)
                clear hK K
                refine norm_ (a' := ?_) ?_ ?_
                rotate_left
                · show Act.put _ (some 73) _ = _
                  simp only [Act.put, List.setIfInBounds_toArray, List.set_cons_zero, List.set_cons_succ, i64_w, i32_w]
                  rfl
                refine pure_ (i := 6) (N := some 67) (v := ?_) (a' := ?_) #[true,true,true,true,true,true,true,false,false,false,false] rfl rfl (by kernel_rfl) (fun _ _ _ h => h) (Or.inl ⟨by rfl, ?_⟩) ?_ ?_
                rotate_left
                · intro w'
                  go_simp
                  with_reducible rfl
                rotate_left
                · simp only [Act.put, List.setIfInBounds_toArray, List.set_cons_zero, List.set_cons_succ, i64_w, i32_w]
                  rfl
                refine pure_ (i := 7) (N := some 74) (v := ?_) (a' := ?_) #[true,true,true,true,true,true,true,true,false,false,false] rfl rfl (by kernel_rfl) (fun _ _ _ h => h) (Or.inl ⟨by rfl, ?_⟩) ?_ ?_
                rotate_left
                · intro w'
                  go_simp
                  with_reducible rfl
                rotate_left
                · simp only [Act.put, List.setIfInBounds_toArray, List.set_cons_zero, List.set_cons_succ, i64_w, i32_w]
                  rfl
                refine pure_ (i := 8) (N := some 75) (v := ?_) (a' := ?_) #[true,true,true,true,true,true,true,true,true,false,false] rfl rfl (by kernel_rfl) (fun _ _ _ h => h) (Or.inl ⟨by rfl, ?_⟩) ?_ ?_
                rotate_left
                · intro w'
                  go_simp
                  with_reducible rfl
                rotate_left
                · simp only [Act.put, List.setIfInBounds_toArray, List.set_cons_zero, List.set_cons_succ, i64_w, i32_w]
                  rfl
                refine pure_ (i := 9) (N := some 16) (v := ?_) (a' := ?_) #[true,true,true,true,true,true,true,true,true,true,false] rfl rfl (by kernel_rfl) (fun _ _ _ h => h) (Or.inl ⟨by rfl, ?_⟩) ?_ ?_
                rotate_left
                · intro w'
                  go_simp
                  with_reducible rfl
                rotate_left
                · simp only [Act.put, List.setIfInBounds_toArray, List.set_cons_zero, List.set_cons_succ, i64_w, i32_w]
                  rfl
                refine pure_ (i := 10) (N := some 17) (v := ?_) (a' := ?_) #[true,true,true,true,true,true,true,true,true,true,true] rfl rfl (by kernel_rfl) (fun _ _ _ h => h) (Or.inl ⟨by rfl, ?_⟩) ?_ ?_
                rotate_left
                · intro w'
                  go_simp
                  with_reducible rfl
                rotate_left
                · simp only [Act.put, List.setIfInBounds_toArray, List.set_cons_zero, List.set_cons_succ, i64_w, i32_w]
                  rfl
                refine done_ (by kernel_rfl) ?_
                cases fv with
                | true =>
                  go_wp2
                  go_ret
                  refine ⟨?_, below_step HBW.out (below_step HN4.out (below_step HY.out (below_step HZ.out (below_step HN5.out HY6.out))))⟩
                  rw [pmS, if_pos (.inl (by rw [hX.out]; exact dupS_true hlt2 (by rw [hgd]; exact hfv)))]
                  rfl
                | false =>
                  go_wp2
                  exact ⟨⟨j + 1, by simp, by omega, Lib.hid (by
                    intro m hm
                    rcases Nat.lt_or_ge m j with h | h
                    · exact HF.out m h
                    · obtain rfl : m = j := by omega
                      rw [hgd]; exact hfv), Lib.hid (below_step HZ.out (below_step HN5.out HY6.out))⟩, by simp [intOf]; omega⟩
              · obtain rfl : la.length = j := by omega
                have hq_ : ¬ (la.length : Int) < (la.length : Int) := by omega
                have hD : dupS X = false := dupS_false (by have := HC3.out.1; rw [this]; exact HF.out)
                go_wp2
                exact ⟨⟨.inr (.inl ⟨rfl, Lib.hid hD⟩), Lib.hid (below_step HY.out HZ.out)⟩, by simp [intOf]⟩
          · go_wp2
            go_loopw [62] (fun jv wi => ∃ j : Nat, jv = .int .i64 j ∧ j ≤ lb.length ∧ Hid (∀ m : Nat, m < j → (findS (lb.take m) ((lb.getD m z38).f0)).isSome = false) ∧ Hid (Below Wa.heap.size Wa wi)) (fun jv _ => lb.length - (intOf jv).toNat)
            case atStart => exact ⟨0, rfl, by omega, Lib.hid (by intro m hm; omega), Lib.hid (Below.refl _ _)⟩
            case round =>
              obtain ⟨j, rfl, hj, HF, HZ⟩ := hrel
              by_cases hlt : j < lb.length
              · have hlt2 : j < lb.length := by have := HC4.out.1; omega
                obtain ⟨p, hp⟩ : ∃ p, lb[j]'hlt2 = p := ⟨_, rfl⟩
                have hlt' : decide ((j : Int) < (lb.length : Int)) = true := decide_eq_true (by omega)
                obtain ⟨ad, e0, y0, y1⟩ := at_T38 (Kd.C_below HC4.out HZ.out) (j : Int) (by omega) (by omega)
                cases e0
                rw [rdSp_nat lb _ hlt2, hp] at y0 y1
                simp only [Int.toNat_natCast] at y0 y1
                have hgd : lb.getD j z38 = p := by rw [List.getD_eq_getElem?_getD, List.getElem?_eq_getElem hlt2, hp]; rfl
                have z0 : (0 : Int) ≤ (j : Int) := by omega
                have zN : j ≤ lb.length := by omega
                have hjc : j ≤ cb := by have := HL_1.out; omega
                go_upto_region 18 with (first
                  | ((with_reducible refine gate_dst (N := 15) rfl ?_); refine box_event ?hg (N := 15) ?hd (cs := #[.string (⟨#[]⟩ : ByteArray), .string (⟨#[]⟩ : ByteArray)]) (t := 38) ?hr ?_; (case hd => rfl); (case hg => rfl); (case hr => first | (go_simp; done) | (go_simp; rfl)); intro gb hg wb hbox hb; have HN := Lib.hid (show Below wr.heap.size wr wb from hb); have GE := Lib.hid (show wr.heap.size ≤ gb by rw [hg]; exact Nat.le_refl _); have BK := Lib.hid hbox; clear hb hbox hg; have b0 : wb.cell? ⟨gb, 0, none⟩ = some (.string (⟨#[]⟩ : ByteArray)) := (blk_cell BK.out 0).trans rfl; have b1 : wb.cell? ⟨gb, 1, none⟩ = some (.string (⟨#[]⟩ : ByteArray)) := (blk_cell BK.out 1).trans rfl; have f0 := blk_frozen BK.out 0; have f1 := blk_frozen BK.out 1))
                obtain ⟨W5, hW5⟩ : ∃ W, W = (wb.setCell ⟨gb, 0, none⟩ (.string p.f0)).setCell ⟨gb, 1, none⟩ (.string p.f1) := ⟨_, rfl⟩
                rw [← hW5]
                have HN5 := Lib.hid (show Below wr.heap.size wr W5 by rw [hW5]; exact (by with_reducible repeat (first | exact HN.out | apply below_alloc | apply pw_below_drewN | apply below_drew1 | refine below_set ?_ GE.out)))
                have c0_ : W5.drew.cell? ⟨gb, 0, none⟩ = some (.string p.f0) := by rw [hW5]; first | (go_simp; done) | (simp; done)
                have c1_ : W5.cell? ⟨gb, 1, none⟩ = some (.string p.f1) := by rw [hW5]; first | (go_simp; done) | (simp; done)
                clear hW5 HN BK b0 b1 f0 f1 y0 y1
                obtain ⟨fv, hfv⟩ : ∃ b, (findS (lb.take j) p.f0).isSome = b := ⟨_, rfl⟩
                have HV := Lib.hid (show ∀ W, Below W5.heap.size W5 W → Calls Try.prog 32 #[.slice (some ad) j cb, .string p.f0] W fun e w' => e = .returned (.tuple #[.string (valR (lb.take j) p.f0), .bool fv]) ∧ Below W.heap.size W w' from by
                  intro W hW
                  have hC := HC4.out
                  have hlN : lb.length = lb.length := hC.1
                  rw [← hlN] at hC
                  have h1 := Kd.C_take (Kd.C_below (Kd.C_below (Kd.C_below hC HZ.out) HN5.out) hW) (show j ≤ lb.length by omega)
                  have h2 := valueOf_calls (some ad) cb (lb.take j) p.f0 W h1 (by rw [List.length_take]; have := HL_1.out; omega) (hlb.take j)
                  rw [List.length_take, Nat.min_eq_left (by omega), hfv] at h2
                  exact h2)
                refine start_ (n := 11) (S := fun w' => w'.cell? ⟨gb, 0, none⟩ = some (.string p.f0)) (ds := []) #[false,false,false,false,false,false,false,false,false,false,false] (by kernel_rfl) rfl rfl c0_ (fun hHeld => ?_)
                generalize hWd : World.drew W5 = W2_ at hHeld ⊢
                refine pure_ (i := 0) (N := some 68) (v := ?_) (a' := ?_) #[true,false,false,false,false,false,false,false,false,false,false] rfl rfl (by kernel_rfl) (fun _ _ _ h => h) (Or.inl ⟨by rfl, ?_⟩) ?_ ?_
                rotate_left
                · intro w'
                  go_simp
                  with_reducible rfl
                rotate_left
                · simp only [Act.put, List.setIfInBounds_toArray, List.set_cons_zero, List.set_cons_succ, i64_w, i32_w]
                  rfl
                refine pure_ (i := 1) (N := some 69) (v := ?_) (a' := ?_) #[true,true,false,false,false,false,false,false,false,false,false] rfl rfl (by kernel_rfl) (fun _ _ _ h => h) (Or.inl ⟨by rfl, ?_⟩) ?_ ?_
                rotate_left
                · intro w'
                  go_simp
                  with_reducible rfl
                rotate_left
                · simp only [Act.put, List.setIfInBounds_toArray, List.set_cons_zero, List.set_cons_succ, i64_w, i32_w]
                  rfl
                refine pure_ (i := 2) (N := some 70) (v := ?_) (a' := ?_) #[true,true,true,false,false,false,false,false,false,false,false] rfl rfl (by kernel_rfl) (fun _ _ _ h => h) (Or.inl ⟨by rfl, ?_⟩) ?_ ?_
                rotate_left
                · intro w'
                  go_simp
                  with_reducible rfl
                rotate_left
                · simp only [Act.put, List.setIfInBounds_toArray, List.set_cons_zero, List.set_cons_succ, i64_w, i32_w]
                  rfl
                refine pure_ (i := 3) (N := some 71) (v := ?_) (a' := ?_) #[true,true,true,true,false,false,false,false,false,false,false] rfl rfl (by kernel_rfl) (fun _ _ _ h => h) (Or.inl ⟨by rfl, ?_⟩) ?_ ?_
                rotate_left
                · intro w'
                  go_simp
                  with_reducible rfl
                rotate_left
                · simp only [Act.put, List.setIfInBounds_toArray, List.set_cons_zero, List.set_cons_succ, i64_w, i32_w]
                  rfl
                refine take_ (i := 4) (N := some 72) (v := ?_) (a' := ?_) #[true,true,true,true,true,false,false,false,false,false,false] rfl rfl (by kernel_rfl) (fun _ _ _ h => h) (Or.inl ⟨by rfl, ?_⟩) hHeld ?_ ?_
                rotate_left
                · rintro w' s0
                  go_simp
                  with_reducible rfl
                rotate_left
                · simp only [Act.put, List.setIfInBounds_toArray, List.set_cons_zero, List.set_cons_succ, i64_w, i32_w]
                  rfl
                refine one_ (i := 5) (N := some 73) #[true,true,true,true,true,true,false,false,false,false,false] rfl rfl (by kernel_rfl) (by decide) (fun K hK => ?_)
                refine goes_ Try.func32 (by kernel_rfl) rfl #[.slice (some ad) j cb, .string p.f0] (by rfl) rfl rfl (by (try simp only [List.map_toArray, List.map_cons, List.map_nil]); first | done | rfl) ?_
                with_reducible refine (HV.out _ (by rw [← hWd]; exact below_drew1 (Below.refl _ _))).mono ?_
                rintro e w6 ⟨rfl, hb6⟩
                have HY6 := Lib.hid (show Below W5.heap.size W5 w6 from by rw [← hWd] at hb6; exact (below_drew1 (Below.refl _ _)).trans hb6)
                refine ⟨_, rfl, ?_⟩
                refine hK.out _ _ ((hb6.cell (World.block_lt_of_cell? _ _ hHeld)).trans hHeld) (fun hHeld => ?_)
                clear hK K
                refine norm_ (a' := ?_) ?_ ?_
                rotate_left
                · show Act.put _ (some 73) _ = _
                  simp only [Act.put, List.setIfInBounds_toArray, List.set_cons_zero, List.set_cons_succ, i64_w, i32_w]
                  rfl
                refine pure_ (i := 6) (N := some 67) (v := ?_) (a' := ?_) #[true,true,true,true,true,true,true,false,false,false,false] rfl rfl (by kernel_rfl) (fun _ _ _ h => h) (Or.inl ⟨by rfl, ?_⟩) ?_ ?_
                rotate_left
                · intro w'
                  go_simp
                  with_reducible rfl
                rotate_left
                · simp only [Act.put, List.setIfInBounds_toArray, List.set_cons_zero, List.set_cons_succ, i64_w, i32_w]
                  rfl
                refine pure_ (i := 7) (N := some 74) (v := ?_) (a' := ?_) #[true,true,true,true,true,true,true,true,false,false,false] rfl rfl (by kernel_rfl) (fun _ _ _ h => h) (Or.inl ⟨by rfl, ?_⟩) ?_ ?_
                rotate_left
                · intro w'
                  go_simp
                  with_reducible rfl
                rotate_left
                · simp only [Act.put, List.setIfInBounds_toArray, List.set_cons_zero, List.set_cons_succ, i64_w, i32_w]
                  rfl
                refine pure_ (i := 8) (N := some 75) (v := ?_) (a' := ?_) #[true,true,true,true,true,true,true,true,true,false,false] rfl rfl (by kernel_rfl) (fun _ _ _ h => h) (Or.inl ⟨by rfl, ?_⟩) ?_ ?_
                rotate_left
                · intro w'
                  go_simp
                  with_reducible rfl
                rotate_left
                · simp only [Act.put, List.setIfInBounds_toArray, List.set_cons_zero, List.set_cons_succ, i64_w, i32_w]
                  rfl
                refine pure_ (i := 9) (N := some 16) (v := ?_) (a' := ?_) #[true,true,true,true,true,true,true,true,true,true,false] rfl rfl (by kernel_rfl) (fun _ _ _ h => h) (Or.inl ⟨by rfl, ?_⟩) ?_ ?_
                rotate_left
                · intro w'
                  go_simp
                  with_reducible rfl
                rotate_left
                · simp only [Act.put, List.setIfInBounds_toArray, List.set_cons_zero, List.set_cons_succ, i64_w, i32_w]
                  rfl
                refine pure_ (i := 10) (N := some 17) (v := ?_) (a' := ?_) #[true,true,true,true,true,true,true,true,true,true,true] rfl rfl (by kernel_rfl) (fun _ _ _ h => h) (Or.inl ⟨by rfl, ?_⟩) ?_ ?_
                rotate_left
                · intro w'
                  go_simp
                  with_reducible rfl
                rotate_left
                · simp only [Act.put, List.setIfInBounds_toArray, List.set_cons_zero, List.set_cons_succ, i64_w, i32_w]
                  rfl
                refine done_ (by kernel_rfl) ?_
                cases fv with
                | true =>
                  go_wp2
                  go_ret
                  refine ⟨?_, below_step HBW.out (below_step HN4.out (below_step HY.out (below_step HZ.out (below_step HN5.out HY6.out))))⟩
                  rw [pmS, if_pos (.inr (dupS_true hlt2 (by rw [hgd]; exact hfv)))]
                  rfl
                | false =>
                  go_wp2
                  exact ⟨⟨j + 1, by simp, by omega, Lib.hid (by
                    intro m hm
                    rcases Nat.lt_or_ge m j with h | h
                    · exact HF.out m h
                    · obtain rfl : m = j := by omega
                      rw [hgd]; exact hfv), Lib.hid (below_step HZ.out (below_step HN5.out HY6.out))⟩, by simp [intOf]; omega⟩
              · obtain rfl : lb.length = j := by omega
                have hq_ : ¬ (lb.length : Int) < (lb.length : Int) := by omega
                have hD : dupS lb = false := dupS_false (by have := HC4.out.1; rw [this]; exact HF.out)
                go_wp2
                exact ⟨⟨.inr (.inr ⟨rfl, D0, Lib.hid hD⟩), Lib.hid (below_step HY.out HZ.out)⟩, by simp [intOf]⟩
          · go_wp2
            have hpm := Lib.hid <| show pmS la lb = if X.all (hitS lb) = true then 1 else 0 by
              rw [pmS, hX.out, if_neg (fun h => h.elim (by rw [D0.out]; simp) (by rw [D1.out]; simp))]
            go_loopw [81] (fun iv wi => ∃ m : Nat, iv = .int .i64 m ∧ m ≤ la.length ∧ Hid (∀ q ∈ X.take m, hitS lb q = true) ∧ Hid (Below Wa.heap.size Wa wi)) (fun iv _ => la.length - (intOf iv).toNat)
            case atStart => exact ⟨0, rfl, by omega, Lib.hid (by simp), Lib.hid (Below.refl _ _)⟩
            case round =>
              obtain ⟨m, rfl, hm, HF, HZ⟩ := hrel
              by_cases hlt : m < la.length
              · have hlt2 : m < X.length := by have := HC3.out.1; omega
                obtain ⟨p, hp⟩ : ∃ p, X[m]'hlt2 = p := ⟨_, rfl⟩
                have hlt' : decide ((m : Int) < (la.length : Int)) = true := decide_eq_true (by omega)
                obtain ⟨ad, e0, y0, y1⟩ := at_T38 (Kd.C_below HC3.out HZ.out) (m : Int) (by omega) (by omega)
                cases e0
                rw [rdSp_nat X _ hlt2, hp] at y0 y1
                simp only [Int.toNat_natCast] at y0 y1
                have hmem : p ∈ X := by rw [← hp]; exact List.getElem_mem hlt2
                have ht : X.take (m + 1) = X.take m ++ [p] := by rw [List.take_succ_eq_append_getElem hlt2, hp]
                cases hf : findS lb p.f0 with
                | none =>
                  have hval : valR lb p.f0 = ⟨#[]⟩ := by rw [valR, hf]
                  have his : (findS lb p.f0).isSome = false := by rw [hf]; rfl
                  have hno : hitS lb p = false := by rw [hitS, hf]
                  have HNO := Lib.hid hno
                  clear hf hno
                  go_wp2_with (first
                    | ((with_reducible refine gate_dst (N := 19) rfl ?_); refine box_event ?hg (N := 19) ?hd (cs := #[.string (⟨#[]⟩ : ByteArray), .string (⟨#[]⟩ : ByteArray)]) (t := 38) ?hr ?_; (case hd => rfl); (case hg => rfl); (case hr => first | (go_simp; done) | (go_simp; rfl)); intro gb hg wb hbox hb; have HN := Lib.hid (show Below wr.heap.size wr wb from hb); have GE := Lib.hid (show wr.heap.size ≤ gb by rw [hg]; exact Nat.le_refl _); have BK := Lib.hid hbox; clear hb hbox hg; have b0 : wb.cell? ⟨gb, 0, none⟩ = some (.string (⟨#[]⟩ : ByteArray)) := (blk_cell BK.out 0).trans rfl; have b1 : wb.cell? ⟨gb, 1, none⟩ = some (.string (⟨#[]⟩ : ByteArray)) := (blk_cell BK.out 1).trans rfl; have f0 := blk_frozen BK.out 0; have f1 := blk_frozen BK.out 1)
                    | (go_at_call 32; have d0 : ((wb.setCell ⟨gb, 0, none⟩ (.string p.f0)).setCell ⟨gb, 1, none⟩ (.string p.f1)).cell? ⟨gb, 1, none⟩ = some (.string p.f1) := (by first | (go_simp; done) | (simp; done)); (with_reducible refine (valueOf_calls Ab cb lb p.f0 _ (Kd.C_below (Kd.C_below HC4.out HZ.out) (by with_reducible repeat (first | exact HN.out | apply below_alloc | apply pw_below_drewN | apply below_drew1 | refine below_set ?_ GE.out))) HL_1.out hlb).mono ?_); rintro e w6 ⟨rfl, hb6⟩; have HY6 := Lib.hid (below_step (by with_reducible repeat (first | exact HN.out | apply below_alloc | apply pw_below_drewN | apply below_drew1 | refine below_set ?_ GE.out)) hb6); have d1 : w6.cell? ⟨gb, 1, none⟩ = some (.string p.f1) := (hb6.cell (World.block_lt_of_cell? _ _ d0)).trans d0; clear hb6; rw [hval, his]))
                  go_ret
                  refine ⟨?_, below_step HBW.out (below_step HN4.out (below_step HY.out (below_step HZ.out HY6.out)))⟩
                  rw [hpm.out, if_neg (fun h => by have := List.all_eq_true.1 h p hmem; rw [HNO.out] at this; cases this)]
                  rfl
                | some q =>
                  have hval : valR lb p.f0 = q.f1 := by rw [valR, hf]
                  have his : (findS lb p.f0).isSome = true := by rw [hf]; rfl
                  have hqz : q.f1.size ≤ 1099511627776 := (hlb.2 q (List.mem_of_find?_eq_some hf)).2
                  have hhit : hitS lb p = eqFold q.f1 p.f1 := by rw [hitS, hf]
                  have HHIT := Lib.hid hhit
                  clear hf hhit
                  cases hb : eqFold q.f1 p.f1 with
                  | false =>
                    go_wp2_with (first
                      | ((with_reducible refine gate_dst (N := 19) rfl ?_); refine box_event ?hg (N := 19) ?hd (cs := #[.string (⟨#[]⟩ : ByteArray), .string (⟨#[]⟩ : ByteArray)]) (t := 38) ?hr ?_; (case hd => rfl); (case hg => rfl); (case hr => first | (go_simp; done) | (go_simp; rfl)); intro gb hg wb hbox hb; have HN := Lib.hid (show Below wr.heap.size wr wb from hb); have GE := Lib.hid (show wr.heap.size ≤ gb by rw [hg]; exact Nat.le_refl _); have BK := Lib.hid hbox; clear hb hbox hg; have b0 : wb.cell? ⟨gb, 0, none⟩ = some (.string (⟨#[]⟩ : ByteArray)) := (blk_cell BK.out 0).trans rfl; have b1 : wb.cell? ⟨gb, 1, none⟩ = some (.string (⟨#[]⟩ : ByteArray)) := (blk_cell BK.out 1).trans rfl; have f0 := blk_frozen BK.out 0; have f1 := blk_frozen BK.out 1)
                      | (go_at_call 32; have d0 : ((wb.setCell ⟨gb, 0, none⟩ (.string p.f0)).setCell ⟨gb, 1, none⟩ (.string p.f1)).cell? ⟨gb, 1, none⟩ = some (.string p.f1) := (by first | (go_simp; done) | (simp; done)); (with_reducible refine (valueOf_calls Ab cb lb p.f0 _ (Kd.C_below (Kd.C_below HC4.out HZ.out) (by with_reducible repeat (first | exact HN.out | apply below_alloc | apply pw_below_drewN | apply below_drew1 | refine below_set ?_ GE.out))) HL_1.out hlb).mono ?_); rintro e w6 ⟨rfl, hb6⟩; have HY6 := Lib.hid (below_step (by with_reducible repeat (first | exact HN.out | apply below_alloc | apply pw_below_drewN | apply below_drew1 | refine below_set ?_ GE.out)) hb6); have d1 : w6.cell? ⟨gb, 1, none⟩ = some (.string p.f1) := (hb6.cell (World.block_lt_of_cell? _ _ d0)).trans d0; clear hb6; rw [hval, his])
                      | (go_at_call 31; (with_reducible refine (same_calls q.f1 p.f1 _ hqz).mono ?_); rintro e w7 ⟨rfl, ⟨nd, rfl⟩⟩; rw [hb]))
                    go_ret
                    refine ⟨?_, below_step HBW.out (below_step HN4.out (below_step HY.out (below_step HZ.out (pw_below_drewN HY6.out _))))⟩
                    rw [hpm.out, if_neg (fun h => by have := List.all_eq_true.1 h p hmem; rw [HHIT.out, hb] at this; cases this)]
                    rfl
                  | true =>
                    go_wp2_with (first
                      | ((with_reducible refine gate_dst (N := 19) rfl ?_); refine box_event ?hg (N := 19) ?hd (cs := #[.string (⟨#[]⟩ : ByteArray), .string (⟨#[]⟩ : ByteArray)]) (t := 38) ?hr ?_; (case hd => rfl); (case hg => rfl); (case hr => first | (go_simp; done) | (go_simp; rfl)); intro gb hg wb hbox hb; have HN := Lib.hid (show Below wr.heap.size wr wb from hb); have GE := Lib.hid (show wr.heap.size ≤ gb by rw [hg]; exact Nat.le_refl _); have BK := Lib.hid hbox; clear hb hbox hg; have b0 : wb.cell? ⟨gb, 0, none⟩ = some (.string (⟨#[]⟩ : ByteArray)) := (blk_cell BK.out 0).trans rfl; have b1 : wb.cell? ⟨gb, 1, none⟩ = some (.string (⟨#[]⟩ : ByteArray)) := (blk_cell BK.out 1).trans rfl; have f0 := blk_frozen BK.out 0; have f1 := blk_frozen BK.out 1)
                      | (go_at_call 32; have d0 : ((wb.setCell ⟨gb, 0, none⟩ (.string p.f0)).setCell ⟨gb, 1, none⟩ (.string p.f1)).cell? ⟨gb, 1, none⟩ = some (.string p.f1) := (by first | (go_simp; done) | (simp; done)); (with_reducible refine (valueOf_calls Ab cb lb p.f0 _ (Kd.C_below (Kd.C_below HC4.out HZ.out) (by with_reducible repeat (first | exact HN.out | apply below_alloc | apply pw_below_drewN | apply below_drew1 | refine below_set ?_ GE.out))) HL_1.out hlb).mono ?_); rintro e w6 ⟨rfl, hb6⟩; have HY6 := Lib.hid (below_step (by with_reducible repeat (first | exact HN.out | apply below_alloc | apply pw_below_drewN | apply below_drew1 | refine below_set ?_ GE.out)) hb6); have d1 : w6.cell? ⟨gb, 1, none⟩ = some (.string p.f1) := (hb6.cell (World.block_lt_of_cell? _ _ d0)).trans d0; clear hb6; rw [hval, his])
                      | (go_at_call 31; (with_reducible refine (same_calls q.f1 p.f1 _ hqz).mono ?_); rintro e w7 ⟨rfl, ⟨nd, rfl⟩⟩; rw [hb]))
                    exact ⟨⟨m + 1, by simp, by omega, Lib.hid (by
                      rw [ht]
                      intro q2 hq2
                      rcases List.mem_append.1 hq2 with h | h
                      · exact HF.out q2 h
                      · rw [List.mem_singleton] at h; rw [h, HHIT.out]; exact hb), Lib.hid (below_step HZ.out (pw_below_drewN HY6.out _))⟩, by simp [intOf]; omega⟩
              · obtain rfl : la.length = m := by omega
                have hq_ : ¬ (la.length : Int) < (la.length : Int) := by omega
                have hNX : X.length = la.length := HC3.out.1
                have HNX := Lib.hid hNX
                clear hNX hlt
                go_wp2
                go_ret
                refine ⟨?_, below_step HBW.out (below_step HN4.out (below_step HY.out HZ.out))⟩
                rw [hpm.out, if_pos (List.all_eq_true.2 (by have h := HF.out; rw [List.take_of_length_le (by have := HC3.out.1; omega)] at h; exact h))]
                rfl
def spec_ParamsMatch.f (k : Nat) (a0 a1 : ByteArray) : Option Int :=
  if a0.size ≤ 1099511627776 then (if a1.size ≤ 1099511627776 then ((spec_Params.f k a0 (-1)).bind fun ra => (spec_Params.f k a1 (-1)).bind fun rb => some (if ra.2 ≠ 1 ∨ rb.2 ≠ 1 then 2 else pmS ra.1 rb.1)) else none) else none
theorem strOf_size (l : List Int) : (strOfNums l).size = l.length := by simp [strOfNums, ByteArray.size]
theorem valP_sizes {u : List Int} {r : List Int × List Int} (h : valP u = some r) : r.1.length ≤ u.length ∧ r.2.length < u.length := by
  unfold valP at h
  have hq := quoN_le (u.drop 1) false
  rw [List.length_drop] at hq
  split at h
  · cases h
  · split at h
    · split at h
      · obtain rfl := Option.some.inj h
        exact ⟨by rw [List.length_take, List.length_drop]; omega, by rw [List.length_drop]; omega⟩
      · cases h
    · split at h
      · cases h
      · obtain rfl := Option.some.inj h
        exact ⟨by rw [List.length_take]; omega, by rw [List.length_drop]; omega⟩
theorem oneU_sizes {u p v rest : List Int} (h : oneU u = some (p, v, rest)) : p.length ≤ u.length ∧ v.length ≤ u.length ∧ rest.length < u.length := by
  obtain ⟨N, hN⟩ : ∃ N, tokN u = N := ⟨_, rfl⟩
  by_cases h0 : N = 0
  · rw [oneU_n0 (by omega)] at h; cases h
  · by_cases h1 : u.length ≤ N + 1 ∨ u.getD N 0 ≠ 61
    · rw [oneU_eq hN h1] at h; cases h
    · have h2 : ¬ u.length ≤ N + 1 := fun g => h1 (.inl g)
      have h3 : u.getD N 0 = 61 := Decidable.not_not.1 (fun g => h1 (.inr g))
      rw [oneU_val hN h0 (by omega) h3] at h
      obtain ⟨r, hr, e⟩ := Option.map_eq_some_iff.1 h
      have hs := valP_sizes hr
      rw [List.length_drop] at hs
      simp only [Prod.mk.injEq] at e
      obtain ⟨rfl, rfl, rfl⟩ := e
      exact ⟨by rw [List.length_take]; omega, by omega, by omega⟩
theorem one_sizes {xs p v rest : List Int} (h : oneP xs = some (p, v, rest)) : p.length < xs.length ∧ v.length < xs.length ∧ rest.length < xs.length := by
  unfold oneP at h
  have h1 := p_ltrim_le xs
  have h2 := p_ltrim_le ((ltrim xs).drop 1)
  rw [List.length_drop] at h2
  split at h
  · cases h
  · rename_i g
    have h3 : ¬ (ltrim xs).length = 0 := fun e => g (.inl e)
    have := oneU_sizes h
    omega
theorem parL_small : ∀ (f : Nat) (xs : List Int) (n : Nat), xs.length ≤ n → (parL f xs).length ≤ n ∧ ∀ p ∈ parL f xs, p.1.size ≤ n ∧ p.2.size ≤ n
  | 0, xs, n, h => ⟨by simp [parL], by simp [parL]⟩
  | f + 1, xs, n, h => by
    rw [parL]
    cases e : oneP xs with
    | none => simp
    | some r =>
      obtain ⟨p, v, rest⟩ := r
      have hs := one_sizes e
      have ih := parL_small f rest (n - 1) (by omega)
      simp only
      refine ⟨by rw [List.length_cons]; omega, fun q hq => ?_⟩
      rcases List.mem_cons.1 hq with rfl | hq
      · exact ⟨by rw [strOf_size]; omega, by rw [strOf_size]; omega⟩
      · have := ih.2 q hq; omega
theorem small_of (x : ByteArray) (hx : x.size ≤ 1099511627776) (m : Int) (r : List Sp × Int) (k : Nat) (h : spec_Params.f k x m = some r) : r.2 = 2 ∨ (r.2 = 1 ∧ 9 ∉ ns x ∧ r.1 = (takeM m 0 (parL x.size (ns x))).map toSp ∧ Small r.1) := by
  obtain ⟨r', hr, hc⟩ := params_ends x m hx
  obtain ⟨K, hK⟩ := hr
  have e : r = r' := by
    have h1 : spec_Params.f (max K k) x m = some r' := hK (max K k) (Nat.le_max_left _ _)
    have h2 := at_rounds (fun k => spec_Params.mono x m k) (Nat.le_max_right K k) h
    rw [h1] at h2
    exact (Option.some.inj h2).symm
  subst e
  refine hc.imp id (fun ⟨a, b, c⟩ => ⟨a, b, c, ?_⟩)
  have hp := parL_small x.size (ns x) x.size (by rw [ns_length]; exact Nat.le_refl _)
  have ht : ∀ p ∈ takeM m 0 (parL x.size (ns x)), p ∈ parL x.size (ns x) := by
    intro p hp2
    unfold takeM at hp2
    split at hp2
    · exact hp2
    · exact List.mem_of_mem_take hp2
  have hl : (takeM m 0 (parL x.size (ns x))).length ≤ (parL x.size (ns x)).length := by
    unfold takeM
    split
    · exact Nat.le_refl _
    · rw [List.length_take]; omega
  rw [c]
  refine ⟨by rw [List.length_map]; omega, fun q hq => ?_⟩
  obtain ⟨p, hp2, rfl⟩ := List.mem_map.1 hq
  have := hp.2 p (ht p hp2)
  exact ⟨by show p.1.size ≤ _; omega, by show p.2.size ≤ _; omega⟩
theorem spec_ParamsMatch.calls (k : Nat) (a0 a1 : ByteArray) (r : Int) (w : World) (h : spec_ParamsMatch.f k a0 a1 = some r) :
    Calls Try.prog 15 #[.string a0, .string a1] w fun e w' => e = .returned (.int .i64 r) ∧ Below w.heap.size w w' := by
  unfold spec_ParamsMatch.f at h
  by_cases h0 : a0.size ≤ 1099511627776
  · rw [if_pos h0] at h
    by_cases h1 : a1.size ≤ 1099511627776
    · rw [if_pos h1] at h
      obtain ⟨⟨la, sa⟩, ha, h⟩ := Option.bind_eq_some_iff.1 h
      obtain ⟨⟨lb, sb⟩, hb, h⟩ := Option.bind_eq_some_iff.1 h
      obtain rfl := Option.some.inj h
      by_cases hs : sa ≠ 1 ∨ sb ≠ 1
      · have := specPM_two a0 a1 k k la lb sa sb ha hb hs w
        rw [show (if (la, sa).2 ≠ 1 ∨ (lb, sb).2 ≠ 1 then (2 : Int) else pmS (la, sa).1 (lb, sb).1) = 2 from if_pos hs]
        exact this
      · obtain ⟨hsa, hsb⟩ := not_or.1 hs
        obtain rfl : sa = 1 := Decidable.not_not.1 hsa
        obtain rfl : sb = 1 := Decidable.not_not.1 hsb
        have ca := small_of a0 h0 (-1) _ k ha
        have cb := small_of a1 h1 (-1) _ k hb
        refine specPM_one a0 a1 k k la lb ha hb (ca.resolve_left (by simp)).2.2.2 (cb.resolve_left (by simp)).2.2.2 w
    · rw [if_neg h1] at h; cases h
  · rw [if_neg h0] at h; cases h
theorem find_toSp (l : SP) (name : ByteArray) : findS (l.map toSp) name = (l.find? (fun p => eqFold name p.1)).map toSp := by
  unfold findS
  rw [List.find?_map]
  congr 2
  funext p
  exact eqFold_symm _ _
theorem hit_toSp (lb : SP) (p : ByteArray × ByteArray) : hitS (lb.map toSp) (toSp p) = hitL lb p := by
  unfold hitS hitL
  rw [show (toSp p).f0 = p.1 from rfl, find_toSp]
  cases lb.find? (fun q => eqFold p.1 q.1) with
  | none => rfl
  | some q => exact eqFold_symm _ _
theorem up_q : ∀ n : Fin 256, Gv.up ((n.val : Nat) : Int) = 81 → n.val = 113 ∨ n.val = 81 := by decide +kernel
theorem isQ_fold (p : ByteArray) : isQ p = eqFold p qS := by
  unfold isQ eqFold
  refine decide_eq_decide.2 ?_
  have e : (ns qS).map Gv.up = [81] := by decide
  rw [e]
  constructor
  · rintro (h | h)
    · have h2 : p = ⟨#[113]⟩ := (toList_eq_iff p ⟨#[113]⟩).1 (h.trans (by rw [Lib.toList_data]))
      rw [h2]; decide
    · have h2 : p = ⟨#[81]⟩ := (toList_eq_iff p ⟨#[81]⟩).1 (h.trans (by rw [Lib.toList_data]))
      rw [h2]; decide
  · intro h
    obtain ⟨c, hc, hcu⟩ := List.map_eq_singleton_iff.1 h
    have hr := ns_range p c (by rw [hc]; exact List.mem_cons_self ..)
    have h2 : c = 113 ∨ c = 81 := by
      obtain ⟨n, rfl⟩ := Int.eq_ofNat_of_zero_le hr.1
      have := up_q ⟨n, by omega⟩ hcu
      simp only at this
      omega
    rcases h2 with rfl | rfl
    · exact .inl (((toList_eq_iff p ⟨#[113]⟩).2 (ns_inj (by rw [hc]; rfl))).trans (by rw [Lib.toList_data]))
    · exact .inr (((toList_eq_iff p ⟨#[81]⟩).2 (ns_inj (by rw [hc]; rfl))).trans (by rw [Lib.toList_data]))
theorem want_toSp (l : SP) : wantS (l.map toSp) = (wantL l).map toSp := by
  unfold wantS wantL
  rw [List.takeWhile_map]
  congr 2
  funext p
  show (!eqFold p.1 qS) = !isQ p.1
  rw [isQ_fold]
theorem dup_toSp : ∀ (t acc : SP), (∀ m : Nat, m < t.length → (findS ((acc ++ t.take m).map toSp) ((t.map toSp).getD m z38).f0).isSome = false) → dupL acc t = false
  | [], acc, _ => rfl
  | p :: t, acc, h => by
    rw [dupL, Bool.or_eq_false_iff]
    refine ⟨?_, dup_toSp t (acc ++ [p]) (fun m hm => ?_)⟩
    · have h0 := h 0 (by simp)
      rw [List.take_zero, List.append_nil, List.map_cons, List.getD_cons_zero, find_toSp, show (toSp p).f0 = p.1 from rfl, Option.isSome_map] at h0
      rw [Bool.eq_false_iff] at h0 ⊢
      intro g
      refine h0 ?_
      rw [List.find?_isSome]
      obtain ⟨q, hq, hq2⟩ := List.any_eq_true.1 g
      exact ⟨q, hq, hq2⟩
    · have h1 := h (m + 1) (by simpa using hm)
      rw [List.take_succ_cons, List.map_cons, List.getD_cons_succ] at h1
      rw [List.append_assoc, List.singleton_append]
      exact h1
theorem dup_false {l : SP} (h : dupS (l.map toSp) = false) : dupL [] l = false := by
  refine dup_toSp l [] (fun m hm => ?_)
  have h1 := List.any_eq_false.1 h m (by rw [List.mem_range, List.length_map]; exact hm)
  rw [List.nil_append]
  rw [← List.map_take] at h1
  simpa using h1
theorem match_says (a0 a1 : ByteArray) (h : pmS ((parL a0.size (ns a0)).map toSp) ((parL a1.size (ns a1)).map toSp) ≠ 2) :
    matchOf a0 a1 = (pmS ((parL a0.size (ns a0)).map toSp) ((parL a1.size (ns a1)).map toSp) == 1) := by
  unfold pmS at h ⊢
  split at h
  · exact absurd rfl h
  · rename_i hd
    rw [if_neg hd, matchOf_is a0 a1 (dup_false (by
      rw [← want_toSp]
      exact Bool.eq_false_iff.2 (fun g => hd (.inl g)))), want_toSp]
    have e : ((wantL (parL a0.size (ns a0))).map toSp).all (hitS ((parL a1.size (ns a1)).map toSp)) = (wantL (parL a0.size (ns a0))).all (hitL (parL a1.size (ns a1))) := by
      rw [List.all_map]
      congr 1
      funext p
      exact hit_toSp _ p
    rw [e]
    cases (wantL (parL a0.size (ns a0))).all (hitL (parL a1.size (ns a1))) <;> rfl
theorem specPM_ends (a0 a1 : ByteArray) (h0 : a0.size ≤ 1099511627776) (h1 : a1.size ≤ 1099511627776) : ∃ r, Ev (fun k => spec_ParamsMatch.f k a0 a1) r ∧ (r = 2 ∨ matchOf a0 a1 = (r == 1)) := by
  obtain ⟨ra, ha, ca⟩ := params_ends a0 (-1) h0
  obtain ⟨rb, hb, cb⟩ := params_ends a1 (-1) h1
  refine ⟨if ra.2 ≠ 1 ∨ rb.2 ≠ 1 then 2 else pmS ra.1 rb.1, Ev.if_true h0 (Ev.if_true h1 (Ev.bind ha (Ev.bind hb (Ev.now _)))), ?_⟩
  by_cases hs : ra.2 ≠ 1 ∨ rb.2 ≠ 1
  · rw [if_pos hs]; exact .inl rfl
  · rw [if_neg hs]
    obtain ⟨hsa, hsb⟩ := not_or.1 hs
    have ea := ca.resolve_left (fun g => hsa (by rw [g]; decide))
    have eb := cb.resolve_left (fun g => hsb (by rw [g]; decide))
    have t : ∀ l : SP, takeM (-1) 0 l = l := fun l => by rw [takeM, if_pos (by decide)]
    rw [ea.2.2, eb.2.2, t, t]
    by_cases h2 : pmS ((parL a0.size (ns a0)).map toSp) ((parL a1.size (ns a1)).map toSp) = 2
    · exact .inl h2
    · exact .inr (match_says a0 a1 h2)
end Go.Proofs.Ytgmjaggkiifdjaa.Given
