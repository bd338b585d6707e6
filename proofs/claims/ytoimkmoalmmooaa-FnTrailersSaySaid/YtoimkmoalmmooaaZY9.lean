/- Texts of this claim, one behind the other (merged by wip/prune.py of this repo, without what the proof does not use): GvRow, GvNhk, GSpecNorm, QA30, GLow, GNormal, LModelP, TSpecF, GSpecSet, HOwn, HKv, HAlloc, HApp, HEq, GErrNew, QA12. -/
import Derived.Test.YtoimkmoalmmooaaZY1
import Derived.Test.YtoimkmoalmmooaaZY2
import Derived.Test.YtoimkmoalmmooaaZY3
import Derived.Test.YtoimkmoalmmooaaZY4
import Derived.Test.YtoimkmoalmmooaaZY5
import Derived.Test.YtoimkmoalmmooaaZY6
import Derived.Below
import Derived.BigQuiet
import Derived.Deep.LoopGhost
import Derived.Deep.QuietTactic
import Derived.KernelRfl
import Derived.Laws.BytesArg
import Derived.Laws.OwnMore
import Derived.Laws.RangeAny
import Derived.Laws.RangeString
import Derived.Laws.Slices
import Derived.Lib.AppendStr
import Derived.Lib.ConvBytes
import Derived.Lib.Hide
import Derived.Lib.SliceRun
import Derived.Lib.TrimU
import Derived.Outline
import Derived.OwnWalk
import Derived.RowKit3
import Derived.Tactics
import Derived.Test.YtoimkmoalmmooaaProg
import Derived.WalkKit
import Derived.WalkLawsBesides
import Derived.WalkMore
import Derived.WalkSpells
import Derived.WideLaws
set_option linter.unusedVariables false
set_option linter.unusedSimpArgs false
namespace Go.Proofs.Ytoimkmoalmmooaa.Gv
open Go.RowKit Go.Proofs.YtoimkmoalmmooaaW.PrintWords Go.Proofs.YtoimkmoalmmooaaW.PrintLast Go.Proofs.YtoimkmoalmmooaaW.PrintMore Go.Proofs.Ytoimkmoalmmooaa.Base
def Br (w : World) (e : TypeId) (g : Nat) (xs : List Int) : Prop :=
  ∃ cur fr, w.heap[g]? = some (.cells cur e fr) ∧ (∀ j, j < xs.length → cur[j]? = some (.int .u8 (xs.getD j 0))) ∧ ∀ j, j < xs.length → ¬ (fr.1 ≤ j ∧ j < fr.2)
theorem Br.cell {w : World} {e : TypeId} {g : Nat} {xs : List Int} (h : Br w e g xs) (j : Nat) (hj : j < xs.length) : w.cell? ⟨g, j, none⟩ = some (.int .u8 (xs.getD j 0)) := by
  obtain ⟨cur, fr, hb, hc, _⟩ := h
  simp only [World.cell?, hb]
  exact hc j hj
theorem Br.free {w : World} {e : TypeId} {g : Nat} {xs : List Int} (h : Br w e g xs) (j : Nat) (hj : j < xs.length) : w.frozen? ⟨g, j, none⟩ = false := by
  obtain ⟨cur, fr, hb, _, hf⟩ := h
  have := hf j hj
  obtain ⟨lo, hi⟩ := fr
  simp only [World.frozen?, hb]
  simp only [Bool.and_eq_false_iff, decide_eq_false_iff_not]
  simp only at this
  omega
theorem Br.lt {w : World} {e : TypeId} {g : Nat} {xs : List Int} (h : Br w e g xs) : g < w.heap.size := by
  obtain ⟨cur, fr, hb, _⟩ := h
  exact (Array.getElem?_eq_some_iff.1 hb).1
theorem Br.set {w : World} {e : TypeId} {g : Nat} {xs : List Int} (h : Br w e g xs) (j : Nat) (v : Int) : Br (w.setCell ⟨g, j, none⟩ (.int .u8 v)) e g (xs.set j v) := by
  obtain ⟨cur, fr, hb, hc, hf⟩ := h
  refine ⟨cur.setIfInBounds j (.int .u8 v), fr, ?_, fun i hi => ?_, fun i hi => hf i (by simpa using hi)⟩
  · simp only [World.setCell, Array.getElem?_modify, if_true, hb, Option.map_some, Option.isSome_none, Bool.false_eq_true, if_false]
  · have hi' : i < xs.length := by simpa using hi
    have h1 := hc i hi'
    have hlt : i < cur.size := (Array.getElem?_eq_some_iff.1 h1).1
    rw [Array.getElem?_setIfInBounds, List.getD_eq_getElem?_getD, List.getElem?_set]
    by_cases e1 : j = i
    · subst e1; simp [hlt, hi']
    · rw [if_neg e1, if_neg e1, h1, List.getD_eq_getElem?_getD]
theorem Br.same {w w' : World} {e : TypeId} {g : Nat} {xs : List Int} (h : Br w e g xs) (hb : w'.heap[g]? = w.heap[g]?) : Br w' e g xs := by
  obtain ⟨cur, fr, h1, h2⟩ := h
  exact ⟨cur, fr, hb.trans h1, h2⟩
theorem Br.below {w w' : World} {e : TypeId} {g : Nat} {xs : List Int} (h : Br w e g xs) (hb : Below w.heap.size w w') : Br w' e g xs := h.same (hb.block g h.lt)
theorem Br.conv (w : World) (e : TypeId) (s : ByteArray) : Br (Lib.bytesWorld w e s) e w.heap.size (ns s) := by
  refine ⟨_, _, Lib.bytesWorld_at_new w e s, fun j hj => ?_, fun j hj => ?_⟩
  · rw [ns_length] at hj
    have h := Lib.bytesWorld_cell w e s j hj
    simp only [World.cell?, Lib.bytesWorld_at_new] at h
    have h2 : (ns s).getD j 0 = ((s.data.toList.getD j 0).toNat : Int) := by
      unfold ns
      rw [List.getD_eq_getElem?_getD, List.getD_eq_getElem?_getD, List.getElem?_map]
      have : j < s.data.toList.length := by rw [← Lib.size_eq]; exact hj
      rw [List.getElem?_eq_getElem this]; rfl
    rw [h2]
    simpa using h
  · rw [ns_length] at hj
    have : s.size ≤ (Lib.bytesCells w e s).size := by simp [Lib.bytesCells]
    simp only
    omega
theorem conv_below (w : World) (e : TypeId) (s : ByteArray) : Below w.heap.size w (Lib.bytesWorld w e s) :=
  ⟨rfl, rfl, rfl, by rw [Lib.bytesWorld_size]; omega, fun i hi => Lib.bytesWorld_at_old w e s i hi⟩
theorem Br.text {P : Program} {w : World} {e src dst : TypeId} {g : Nat} {xs : List Int} (h : Br w e g xs) (hs : P.underlying src = some (.slice e)) (he : P.underlying e = some (.int .u8)) (hd : P.underlying dst = some .string) (cap : Nat) :
    (convert src dst (.slice (some ⟨g, 0, none⟩) xs.length cap)).run P w = .ok (.string (strOfNums xs)) w :=
  run_convert_bytes_arg w src e hs he g 0 xs.length cap xs rfl (fun i hi => by rw [Nat.zero_add]; exact h.cell i hi) dst hd
theorem Br.reads {w : World} {e : TypeId} {g : Nat} {xs : List Int} (h : Br w e g xs) (hl : xs.length ≤ 9223372036854775807) : ReadsOf (Value.int .u8) 0 w (some ⟨g, 0, none⟩) xs.length xs :=
  ⟨rfl, hl, fun _ => ⟨_, rfl, fun j hj => by rw [add_plain]; exact h.cell j hj⟩⟩
theorem Br.drewN {w : World} {e : TypeId} {g : Nat} {xs : List Int} (h : Br w e g xs) (k : Nat) : Br (w.drewN k) e g xs := h.same rfl
theorem wpList_index_tab {P : Program} {ops : Array Oper} {rest : List Oper} {o : Oper} {a : Act} {w : World} {Q : Exit → Act → World → Prop} (hgd : o.guard = none) (t : TypeId) (x i : Operand) (ho : o.op = .index t x i)
    (S : ByteArray) (n : Int) (k : IntKind) (hx : a.eval x = .string S) (hi : a.eval i = .int k n) (ht : P.underlying t = some .string) (h0 : 0 ≤ n) (h1 : n < S.size) (v : Int) (hv : bt S n = v)
    (h : wpList P ops Q rest (a.put o.dst (.int .u8 v)) w) : wpList P ops Q (o :: rest) a w :=
  wpList_plain hgd fun _ hK => by
    unfold Oper.wp execOp
    have hn : n.toNat < S.size := by omega
    have hb : ((S[n.toNat]'hn).toNat : Int) = v := by rw [← hv]; exact bt_at S n hn
    have hr : (Instr.index t (.string S) (.int k n)).run P w = .ok (.int .u8 v) w := by
      rw [← hb]
      simp [Instr.index, asIntOf, run_underlying ht, h0, hn]
    simp only [ho, hx, hi, Sem.run_bind, hr, Result.andThen_ok, Sem.run_pure]
    exact hK _ _ h
def TabIs (S : ByteArray) (f : Int → Int) : Prop := S.size = 256 ∧ ∀ n : Fin 256, bt S ((n.val : Nat) : Int) = f ((n.val : Nat) : Int)
instance (S : ByteArray) (f : Int → Int) : Decidable (TabIs S f) := inferInstanceAs (Decidable (_ ∧ _))
theorem wpList_index_fn {P : Program} {ops : Array Oper} {rest : List Oper} {o : Oper} {a : Act} {w : World} {Q : Exit → Act → World → Prop} (hgd : o.guard = none) (t : TypeId) (x i : Operand) (ho : o.op = .index t x i)
    (S : ByteArray) (n : Int) (k : IntKind) (hx : a.eval x = .string S) (hi : a.eval i = .int k n) (ht : P.underlying t = some .string) (h0 : 0 ≤ n) (h1 : n ≤ 255) (f : Int → Int) (hv : TabIs S f)
    (h : wpList P ops Q rest (a.put o.dst (.int .u8 (f n))) w) : wpList P ops Q (o :: rest) a w := by
  obtain ⟨m, rfl⟩ := Int.eq_ofNat_of_zero_le h0
  exact wpList_index_tab hgd t x i ho S _ k hx hi ht h0 (by rw [hv.1]; omega) _ (hv.2 ⟨m, by omega⟩) h
theorem getD_mid (out rest : List Int) (x : Int) : (out ++ x :: rest).getD out.length 0 = x := by
  rw [List.getD_eq_getElem?_getD, List.getElem?_append_right (Nat.le_refl _), Nat.sub_self]; rfl
theorem set_mid (out rest : List Int) (x v : Int) : (out ++ x :: rest).set out.length v = (out ++ [v]) ++ rest := by
  rw [List.set_append_right _ _ (Nat.le_refl _), Nat.sub_self, List.set_cons_zero, List.append_assoc]; rfl
end Go.Proofs.Ytoimkmoalmmooaa.Gv
namespace Go.Proofs.Ytoimkmoalmmooaa.Given
open Go.RowKit Go.Proofs.YtoimkmoalmmooaaW.PrintWords Go.Proofs.YtoimkmoalmmooaaW.PrintLast Go.Proofs.YtoimkmoalmmooaaW.PrintMore Go.Proofs.Ytoimkmoalmmooaa.Base Go.Proofs.Ytoimkmoalmmooaa.Gv Go.Proofs.Ytoimkmoalmmooaa.QA
def spec_NormalKey.f (a0 : ByteArray) : Option ByteArray := if a0.size ≤ 4611686018427387904 then some (strOfNums (nk (ns a0))) else none
theorem fold_lo {x : Int} (h : 0 ≤ x ∧ x ≤ 255) : spec_fold.f x = some (lo x) := by
  unfold spec_fold.f lo
  by_cases h1 : 65 ≤ x
  · rw [if_pos h1]
    by_cases h2 : x ≤ 90
    · rw [if_pos h2, if_pos ⟨h1, h2⟩, Int.emod_eq_of_lt (by omega) (by omega)]
    · rw [if_neg h2, if_neg (by omega)]
  · rw [if_neg h1, if_neg (by omega)]
theorem big_up {x : Int} (h : 0 ≤ x ∧ x ≤ 255) : spec_big.f x = some (Gv.up x) := by
  unfold spec_big.f Gv.up
  by_cases h1 : 97 ≤ x
  · rw [if_pos h1]
    by_cases h2 : x ≤ 122
    · rw [if_pos h2, if_pos ⟨h1, h2⟩, Int.emod_eq_of_lt (by omega) (by omega)]
    · rw [if_neg h2, if_neg (by omega)]
  · rw [if_neg h1, if_neg (by omega)]
theorem lo_45 {x : Int} (h : x ≠ 45) : lo x ≠ 45 := by unfold lo; split <;> omega
theorem setm (out rest : List Int) (x v : Int) (k : Nat) (hk : k = out.length) : (out ++ x :: rest).set k v = out ++ v :: rest := by
  subst hk; rw [List.set_append_right _ _ (Nat.le_refl _), Nat.sub_self, List.set_cons_zero]
theorem getm (out rest : List Int) (x : Int) (k : Nat) (hk : k = out.length) : (out ++ x :: rest).getD k 0 = x := by
  subst hk; rw [List.getD_eq_getElem?_getD, List.getElem?_append_right (Nat.le_refl _), Nat.sub_self]; rfl
set_option maxHeartbeats 4000000 in
set_option maxRecDepth 100000 in
theorem specNormal_calls (a0 : ByteArray) (w : World) (hbd : a0.size ≤ 4611686018427387904) :
    Calls Try.prog 31 #[.string a0] w fun e w' => e = .returned (.string (strOfNums (nk (ns a0)))) ∧ Below w.heap.size w w' := by
  have hcv := Lib.run_convert_string_bytes (P := Try.prog) w 9 54 5 a0 Try.underlying9 Try.underlying54 Try.underlying5
  have hbr := Br.conv w 5 a0
  have hbl := conv_below w 5 a0
  obtain ⟨c, hc⟩ : ∃ c, grownCap w a0.size 0 5 = c := ⟨_, rfl⟩
  have hlen : Hid ((ns a0).length = a0.size) := Lib.hid (ns_length a0)
  have hrg : Hid (∀ x ∈ ns a0, 0 ≤ x ∧ x ≤ 255) := Lib.hid (fun x hx => ns_range a0 x hx)
  obtain ⟨n, hn⟩ : ∃ n, a0.size = n := ⟨_, rfl⟩
  obtain ⟨res, hres⟩ : ∃ res, nk (ns a0) = res := ⟨_, rfl⟩
  have HRES := Lib.hid hres
  rw [hres]
  obtain ⟨L, hL⟩ : ∃ L, ns a0 = L := ⟨_, rfl⟩
  rw [hL] at hbr hlen HRES hrg
  rw [hc, hn] at hcv
  rw [hn] at hlen hbd
  obtain ⟨W, hW⟩ : ∃ W, Lib.bytesWorld w 5 a0 = W := ⟨_, rfl⟩
  rw [hW] at hcv hbr hbl
  obtain ⟨g, hg⟩ : ∃ g, w.heap.size = g := ⟨_, rfl⟩
  have hge : w.heap.size ≤ g := by omega
  have HG := Lib.hid hge
  rw [hg] at hcv hbr
  have HB := Lib.hid hbr
  have HL := Lib.hid hbl
  clear hW hg hbr hbl hc hn hL hres
  go_enter Try.func31, Try.ntmps31
  go_wp2
  go_loopw [4] (fun i wr => ∃ (k : Nat) (out rest : List Int), i = .int .i64 k ∧ k = out.length ∧ Hid (out.length + rest.length = n) ∧ Hid (∀ x ∈ rest, 0 ≤ x ∧ x ≤ 255) ∧ Hid (res = if k = 0 then nk rest else out ++ nkTail rest) ∧ Hid (Br wr 5 g (out ++ rest)) ∧ Hid (Below w.heap.size w wr)) (fun i _ => n - (intOf i).toNat)
  case atStart => exact ⟨0, [], L, rfl, rfl, Lib.hid (by rw [List.length_nil, Nat.zero_add]; exact hlen.out), hrg, Lib.hid (by rw [if_pos rfl]; exact HRES.out.symm), HB, HL⟩
  case round =>
    obtain ⟨k, out, rest, rfl, hk, Hlen, Hr, Hnk, HBr, HO⟩ := hrel
    cases rest with
    | nil =>
      have hge2 : ¬ (k : Int) < (n : Int) := by have := Hlen.out; simp only [List.length_nil] at this; omega
      have hfin : Hid (res = out ++ []) := Lib.hid (by
        have := Hnk.out
        by_cases h0 : k = 0
        · rw [if_pos h0] at this
          have ho : out = [] := List.eq_nil_of_length_eq_zero (by omega)
          rw [this, ho]; rfl
        · rw [if_neg h0] at this; exact this)
      have hlo : Hid ((out ++ ([] : List Int)).length = n) := Lib.hid (by rw [List.length_append]; exact Hlen.out)
      have htx := HBr.out.text (P := Try.prog) (src := 54) (dst := 9) Try.underlying54 Try.underlying5 Try.underlying9 c
      rw [hlo.out] at htx
      clear hk Hr Hnk Hlen
      go_wp2
      go_ret
      exact ⟨by rw [hfin.out, List.append_nil]; rfl, HO.out⟩
    | cons x rest =>
      have hlt : k < n := by have := Hlen.out; simp only [List.length_cons] at this; omega
      have hin : k < (out ++ x :: rest).length := by rw [List.length_append, List.length_cons]; omega
      have hcell := HBr.out.cell k hin
      have hfree := HBr.out.free k hin
      rw [getm _ _ _ _ hk] at hcell
      have hx := Hr.out x (by simp)
      have Hko := Lib.hid hk
      have hr1 : Hid (∀ z ∈ rest, 0 ≤ z ∧ z ≤ 255) := Lib.hid (fun z hz => Hr.out z (List.mem_cons_of_mem _ hz))
      have HX := Lib.hid hx
      clear hk hin Hr hx
      go_upto_region 6 with (
        go_at_call 55
        refine (spec_fold.calls x (lo x) _ (fold_lo HX.out)).mono ?_
        rintro e w2 ⟨rfl, m, rfl⟩)
      have HB1 := Lib.hid (show Br ((wr.drewN m).setCell ⟨g, k, none⟩ (.int .u8 (lo x))) 5 g (out ++ lo x :: rest) by
        have h := (HBr.out.drewN m).set k (lo x)
        rw [setm _ _ _ _ _ Hko.out] at h
        exact h)
      have HO1 := Lib.hid (show Below w.heap.size w ((wr.drewN m).setCell ⟨g, k, none⟩ (.int .u8 (lo x))) from (pw_below_drewN HO.out m).setCell (p := ⟨g, k, none⟩) HG.out _)
      clear hcell hfree HBr HO
      generalize (wr.drewN m).setCell ⟨g, k, none⟩ (.int .u8 (lo x)) = W1 at *
      have hin : k < (out ++ lo x :: rest).length := by rw [List.length_append, List.length_cons]; have := Hko.out; omega
      have hcell := HB1.out.cell k hin
      have hfree := HB1.out.free k hin
      rw [getm _ _ _ _ Hko.out] at hcell
      clear hin
      by_cases h0 : k = 0
      · subst h0
        have ho : out = [] := List.eq_nil_of_length_eq_zero Hko.out.symm
        subst ho
        go_wp2_with (
          go_at_call 56
          refine (spec_big.calls (lo x) (Gv.up (lo x)) _ (big_up (lo_range HX.out))).mono ?_
          rintro e w2 ⟨rfl, m2, rfl⟩)
        go_roundw
        case rel =>
          refine ⟨1, [Gv.up x], rest, rfl, rfl, Lib.hid (by have := Hlen.out; simp only [List.length_cons, List.length_nil] at this ⊢; omega), hr1, Lib.hid (by have := Hnk.out; (first | rw [if_pos rfl] at this | rw [if_pos trivial] at this); rw [if_neg (by decide)]; exact this), Lib.hid ?_, Lib.hid ?_⟩
          · have h := (HB1.out.drewN m2).set 0 (Gv.up (lo x))
            rw [up_lo] at h ⊢
            exact h
          · exact (pw_below_drewN HO1.out m2).setCell (p := ⟨g, 0, none⟩) HG.out _
        case measure => simp [intOf] <;> omega
      · have hkb : ((k : Int) == 0) = false := beq_eq_false_iff_ne.2 (by omega)
        have hnk1 : Hid (res = out ++ nkTail (x :: rest)) := Lib.hid (by have := Hnk.out; rw [if_neg h0] at this; exact this)
        clear h0 Hnk
        by_cases h45 : x = 45
        · subst h45
          have hl45 : lo 45 = 45 := rfl
          rw [hl45] at HB1 hcell
          clear hl45
          cases rest with
          | nil =>
            have hk1 : ¬ ((k : Int) + 1 < (n : Int)) := by have h1 := Hlen.out; have h2 := Hko.out; simp only [List.length_cons, List.length_nil] at h1; omega
            have hk2 : decide ((k : Int) + 1 < (n : Int)) = false := decide_eq_false hk1
            go_wp2
            go_roundw
            case rel => exact ⟨k + 1, out ++ [45], [], by go_num, by rw [List.length_append, ← Hko.out]; rfl, Lib.hid (by have := Hlen.out; simp only [List.length_append, List.length_cons, List.length_nil] at this ⊢; omega), Lib.hid (by simp), Lib.hid (by rw [if_neg (by omega), hnk1.out, nkTail_hyp1]; simp [nkTail]), Lib.hid (by rw [List.append_nil]; exact HB1.out), HO1⟩
            case measure => simp [intOf]; omega
          | cons y rest =>
            have hk1 : (k : Int) + 1 < (n : Int) := by have h1 := Hlen.out; have h2 := Hko.out; simp only [List.length_cons] at h1; omega
            have hk2 : decide ((k : Int) + 1 < (n : Int)) = true := decide_eq_true hk1
            have hol : k + 1 = (out ++ [(45 : Int)]).length := by rw [List.length_append, ← Hko.out]; rfl
            have hB2 : Br W1 5 g ((out ++ [45]) ++ y :: rest) := by rw [List.append_assoc]; exact HB1.out
            have hin1 : k + 1 < ((out ++ [(45 : Int)]) ++ y :: rest).length := by rw [List.length_append, List.length_cons, ← hol]; omega
            have hcell1 := hB2.cell (k + 1) hin1
            have hfree1 := hB2.free (k + 1) hin1
            rw [getm _ _ _ _ hol] at hcell1
            have HY := Lib.hid (hr1.out y (by simp))
            have HB2 := Lib.hid hB2
            have HOL := Lib.hid hol
            clear hB2 hin1 hol
            go_wp2_with (
              go_at_call 56
              refine (spec_big.calls y (Gv.up y) _ (big_up HY.out)).mono ?_
              rintro e w2 ⟨rfl, m2, rfl⟩)
            go_roundw
            case rel =>
              refine ⟨k + 1 + 1, out ++ [45] ++ [Gv.up y], rest, by go_num, by rw [List.length_append, ← HOL.out]; rfl, Lib.hid (by have := Hlen.out; simp only [List.length_append, List.length_cons, List.length_nil] at this ⊢; omega), Lib.hid (fun z hz => hr1.out z (List.mem_cons_of_mem _ hz)), Lib.hid (by rw [if_neg (by omega), hnk1.out, nkTail_hyp]; simp), Lib.hid ?_, Lib.hid ?_⟩
              · have h := (HB2.out.drewN m2).set (k + 1) (Gv.up y)
                rw [setm _ _ _ _ _ HOL.out] at h
                rw [List.append_assoc]
                exact h
              · exact (pw_below_drewN HO1.out m2).setCell (p := ⟨g, k + 1, none⟩) HG.out _
            case measure => simp [intOf]; omega
        · have hl := lo_45 h45
          have h45b : (lo x == 45) = false := beq_eq_false_iff_ne.2 hl
          obtain ⟨lx, hlx⟩ : ∃ y, lo x = y := ⟨_, rfl⟩
          have HLX := Lib.hid hlx
          rw [hlx] at hcell h45b
          clear hl hlx
          go_wp2
          go_roundw
          case rel => exact ⟨k + 1, out ++ [lo x], rest, by go_num, by rw [List.length_append, ← Hko.out]; rfl, Lib.hid (by have := Hlen.out; simp only [List.length_append, List.length_cons, List.length_nil] at this ⊢; omega), hr1, Lib.hid (by rw [if_neg (by omega), hnk1.out, nkTail_other x rest h45]; simp), Lib.hid (by rw [List.append_assoc]; exact HB1.out), HO1⟩
          case measure => simp [intOf]; omega
theorem spec_NormalKey.calls (a0 : ByteArray) (r : ByteArray) (w : World) (h : spec_NormalKey.f a0 = some r) :
    Calls Try.prog 31 #[.string a0] w fun e w' => e = .returned (.string r) ∧ Below w.heap.size w w' := by
  unfold spec_NormalKey.f at h
  by_cases hbd : a0.size ≤ 4611686018427387904
  · rw [if_pos hbd] at h
    obtain rfl : strOfNums (nk (ns a0)) = r := Option.some.inj h
    exact specNormal_calls a0 w hbd
  · rw [if_neg hbd] at h
    cases h
end Go.Proofs.Ytoimkmoalmmooaa.Given
namespace Go.Proofs.Ytoimkmoalmmooaa.QA
open Go.Proofs.Ytoimkmoalmmooaa.Given
open Go.Proofs.Ytoimkmoalmmooaa.PrX
open Go.RowKit Go.Proofs.YtoimkmoalmmooaaW.PrintWords Go.Proofs.YtoimkmoalmmooaaW.PrintLast Go.Proofs.YtoimkmoalmmooaaW.PrintMore
def spec_BadTrailer.f (k : Nat) (a0 : ByteArray) : Option (Int) := (spec_NormalKey.f a0).bind fun t526 => (if t526.toList = ([84, 114, 97, 110, 115, 102, 101, 114, 45, 69, 110, 99, 111, 100, 105, 110, 103] : List UInt8) then (some 1) else (if t526.toList = ([67, 111, 110, 116, 101, 110, 116, 45, 76, 101, 110, 103, 116, 104] : List UInt8) then (some 1) else (if t526.toList = ([72, 111, 115, 116] : List UInt8) then (some 1) else (if t526.toList = ([84, 114, 97, 105, 108, 101, 114] : List UInt8) then (some 1) else (if t526.toList = ([84, 101] : List UInt8) then (some 1) else (if t526.toList = ([67, 111, 110, 116, 101, 110, 116, 45, 84, 121, 112, 101] : List UInt8) then (some 1) else (if t526.toList = ([67, 111, 110, 116, 101, 110, 116, 45, 69, 110, 99, 111, 100, 105, 110, 103] : List UInt8) then (some 1) else (if t526.toList = ([67, 111, 110, 116, 101, 110, 116, 45, 82, 97, 110, 103, 101] : List UInt8) then (some 1) else (if t526.toList = ([65, 117, 116, 104, 111, 114, 105, 122, 97, 116, 105, 111, 110] : List UInt8) then (some 1) else (if t526.toList = ([67, 111, 110, 110, 101, 99, 116, 105, 111, 110] : List UInt8) then (some 1) else (if t526.toList = ([77, 97, 120, 45, 70, 111, 114, 119, 97, 114, 100, 115] : List UInt8) then (some 1) else (if t526.toList = ([69, 120, 112, 101, 99, 116] : List UInt8) then (some 1) else (if t526.toList = ([82, 97, 110, 103, 101] : List UInt8) then (some 1) else (if t526.toList = ([87, 119, 119, 45, 65, 117, 116, 104, 101, 110, 116, 105, 99, 97, 116, 101] : List UInt8) then (some 1) else (if t526.toList = ([80, 114, 111, 120, 121, 45, 65, 117, 116, 104, 101, 110, 116, 105, 99, 97, 116, 101] : List UInt8) then (some 1) else (if t526.toList = ([80, 114, 111, 120, 121, 45, 65, 117, 116, 104, 111, 114, 105, 122, 97, 116, 105, 111, 110] : List UInt8) then (some 1) else ((spec_NormalKey.f a0).bind fun t527 => (if (t527.size : Int) > 2 then (if 0 ≤ 2 then (if 2 ≤ (t527.size : Int) then (if (t527.extract 0 2).toList = ([88, 45] : List UInt8) then ((spec_word.f k t527).bind fun t528 => (if t528 = true then (some 0) else (some 2))) else (some 2)) else (none)) else (none)) else (some 2)))))))))))))))))))
set_option maxHeartbeats 8000000 in
set_option maxRecDepth 100000 in
theorem spec_BadTrailer.calls (k : Nat) (a0 : ByteArray) (r : Int) (w : World) (h : spec_BadTrailer.f k a0 = some r) :
  Calls Try.prog 32 #[.string a0] w fun e w' => e = .returned (.int .i64 r) ∧ Below w.heap.size w w' := by
 have HB := Aside0.mk (Below.refl w.heap.size w)
 have H : ((spec_NormalKey.f a0).bind fun t526 => (if t526.toList = ([84, 114, 97, 110, 115, 102, 101, 114, 45, 69, 110, 99, 111, 100, 105, 110, 103] : List UInt8) then (some 1) else (if t526.toList = ([67, 111, 110, 116, 101, 110, 116, 45, 76, 101, 110, 103, 116, 104] : List UInt8) then (some 1) else (if t526.toList = ([72, 111, 115, 116] : List UInt8) then (some 1) else (if t526.toList = ([84, 114, 97, 105, 108, 101, 114] : List UInt8) then (some 1) else (if t526.toList = ([84, 101] : List UInt8) then (some 1) else (if t526.toList = ([67, 111, 110, 116, 101, 110, 116, 45, 84, 121, 112, 101] : List UInt8) then (some 1) else (if t526.toList = ([67, 111, 110, 116, 101, 110, 116, 45, 69, 110, 99, 111, 100, 105, 110, 103] : List UInt8) then (some 1) else (if t526.toList = ([67, 111, 110, 116, 101, 110, 116, 45, 82, 97, 110, 103, 101] : List UInt8) then (some 1) else (if t526.toList = ([65, 117, 116, 104, 111, 114, 105, 122, 97, 116, 105, 111, 110] : List UInt8) then (some 1) else (if t526.toList = ([67, 111, 110, 110, 101, 99, 116, 105, 111, 110] : List UInt8) then (some 1) else (if t526.toList = ([77, 97, 120, 45, 70, 111, 114, 119, 97, 114, 100, 115] : List UInt8) then (some 1) else (if t526.toList = ([69, 120, 112, 101, 99, 116] : List UInt8) then (some 1) else (if t526.toList = ([82, 97, 110, 103, 101] : List UInt8) then (some 1) else (if t526.toList = ([87, 119, 119, 45, 65, 117, 116, 104, 101, 110, 116, 105, 99, 97, 116, 101] : List UInt8) then (some 1) else (if t526.toList = ([80, 114, 111, 120, 121, 45, 65, 117, 116, 104, 101, 110, 116, 105, 99, 97, 116, 101] : List UInt8) then (some 1) else (if t526.toList = ([80, 114, 111, 120, 121, 45, 65, 117, 116, 104, 111, 114, 105, 122, 97, 116, 105, 111, 110] : List UInt8) then (some 1) else ((spec_NormalKey.f a0).bind fun t527 => (if (t527.size : Int) > 2 then (if 0 ≤ 2 then (if 2 ≤ (t527.size : Int) then (if (t527.extract 0 2).toList = ([88, 45] : List UInt8) then ((spec_word.f k t527).bind fun t528 => (if t528 = true then (some 0) else (some 2))) else (some 2)) else (none)) else (none)) else (some 2)))))))))))))))))))) = some r := h
 clear h
 replace H := Option.bind_eq_some_iff.mp H
 obtain ⟨t526, A20, H⟩ := H
 replace H : (if t526.toList = ([84, 114, 97, 110, 115, 102, 101, 114, 45, 69, 110, 99, 111, 100, 105, 110, 103] : List UInt8) then (some 1) else (if t526.toList = ([67, 111, 110, 116, 101, 110, 116, 45, 76, 101, 110, 103, 116, 104] : List UInt8) then (some 1) else (if t526.toList = ([72, 111, 115, 116] : List UInt8) then (some 1) else (if t526.toList = ([84, 114, 97, 105, 108, 101, 114] : List UInt8) then (some 1) else (if t526.toList = ([84, 101] : List UInt8) then (some 1) else (if t526.toList = ([67, 111, 110, 116, 101, 110, 116, 45, 84, 121, 112, 101] : List UInt8) then (some 1) else (if t526.toList = ([67, 111, 110, 116, 101, 110, 116, 45, 69, 110, 99, 111, 100, 105, 110, 103] : List UInt8) then (some 1) else (if t526.toList = ([67, 111, 110, 116, 101, 110, 116, 45, 82, 97, 110, 103, 101] : List UInt8) then (some 1) else (if t526.toList = ([65, 117, 116, 104, 111, 114, 105, 122, 97, 116, 105, 111, 110] : List UInt8) then (some 1) else (if t526.toList = ([67, 111, 110, 110, 101, 99, 116, 105, 111, 110] : List UInt8) then (some 1) else (if t526.toList = ([77, 97, 120, 45, 70, 111, 114, 119, 97, 114, 100, 115] : List UInt8) then (some 1) else (if t526.toList = ([69, 120, 112, 101, 99, 116] : List UInt8) then (some 1) else (if t526.toList = ([82, 97, 110, 103, 101] : List UInt8) then (some 1) else (if t526.toList = ([87, 119, 119, 45, 65, 117, 116, 104, 101, 110, 116, 105, 99, 97, 116, 101] : List UInt8) then (some 1) else (if t526.toList = ([80, 114, 111, 120, 121, 45, 65, 117, 116, 104, 101, 110, 116, 105, 99, 97, 116, 101] : List UInt8) then (some 1) else (if t526.toList = ([80, 114, 111, 120, 121, 45, 65, 117, 116, 104, 111, 114, 105, 122, 97, 116, 105, 111, 110] : List UInt8) then (some 1) else ((spec_NormalKey.f a0).bind fun t527 => (if (t527.size : Int) > 2 then (if 0 ≤ 2 then (if 2 ≤ (t527.size : Int) then (if (t527.extract 0 2).toList = ([88, 45] : List UInt8) then ((spec_word.f k t527).bind fun t528 => (if t528 = true then (some 0) else (some 2))) else (some 2)) else (none)) else (none)) else (some 2))))))))))))))))))) = some r := H
 have A2 := Aside0.mk A20
 clear A20
 by_cases c3 : t526.toList = ([84, 114, 97, 110, 115, 102, 101, 114, 45, 69, 110, 99, 111, 100, 105, 110, 103] : List UInt8)
 ·rw [if_pos c3] at H
  have c3b0 : (t526.toList == ([84, 114, 97, 110, 115, 102, 101, 114, 45, 69, 110, 99, 111, 100, 105, 110, 103] : List UInt8)) = true := beq_iff_eq.mpr c3
  have c3b1 : (t526.toList != ([84, 114, 97, 110, 115, 102, 101, 114, 45, 69, 110, 99, 111, 100, 105, 110, 103] : List UInt8)) = false := bne_eq_false_iff_eq.mpr c3
  clear c3
  obtain rfl := Option.some.inj H
  go_enter Try.func32, Try.ntmps32
  go_wp2_with (first | ((with_reducible refine gate_callee (f := 31) rfl ?_); refine goesL_ (some 5) rfl rfl Try.func31 (by kernel_rfl) rfl #[.string a0] rfl (by (try simp only [List.map_toArray, List.map_cons, List.map_nil]); first | done | rfl | (simp only [List.length_drop, List.length_take]; rfl)) ?_; (with_reducible refine (spec_NormalKey.calls a0 t526 _ A2.out).mono ?_); rintro e w4 ⟨rfl, hb⟩; refine ⟨_, rfl, ?_⟩; have n0_ := Aside0.mk (below_step (by repeat (first | (with_reducible first | exact HB.out | apply below_alloc | apply pw_below_drewN | apply below_drew1) | exact HB.out)) hb); clear HB; have HB := n0_; clear n0_; (try clear hb); (try clear hb2); (try clear hk); (try clear hi)))
  go_ret
  exact ⟨by first | rfl | (simp [errW_none, errW_some] <;> rfl) | (simp [*, errW_none, errW_some] <;> rfl), by repeat (first | (with_reducible first | exact HB.out | apply below_alloc | apply pw_below_drewN | apply below_drew1) | exact HB.out)⟩
 ·rw [if_neg c3] at H
  have c3b0 : (t526.toList == ([84, 114, 97, 110, 115, 102, 101, 114, 45, 69, 110, 99, 111, 100, 105, 110, 103] : List UInt8)) = false := beq_eq_false_iff_ne.mpr c3
  have c3b1 : (t526.toList != ([84, 114, 97, 110, 115, 102, 101, 114, 45, 69, 110, 99, 111, 100, 105, 110, 103] : List UInt8)) = true := bne_iff_ne.mpr c3
  by_cases c5 : t526.toList = ([67, 111, 110, 116, 101, 110, 116, 45, 76, 101, 110, 103, 116, 104] : List UInt8)
  ·rw [if_pos c5] at H
   have c5b0 : (t526.toList == ([67, 111, 110, 116, 101, 110, 116, 45, 76, 101, 110, 103, 116, 104] : List UInt8)) = true := beq_iff_eq.mpr c5
   have c5b1 : (t526.toList != ([67, 111, 110, 116, 101, 110, 116, 45, 76, 101, 110, 103, 116, 104] : List UInt8)) = false := bne_eq_false_iff_eq.mpr c5
   clear c5
   obtain rfl := Option.some.inj H
   go_enter Try.func32, Try.ntmps32
   go_wp2_with (first | ((with_reducible refine gate_callee (f := 31) rfl ?_); refine goesL_ (some 5) rfl rfl Try.func31 (by kernel_rfl) rfl #[.string a0] rfl (by (try simp only [List.map_toArray, List.map_cons, List.map_nil]); first | done | rfl | (simp only [List.length_drop, List.length_take]; rfl)) ?_; (with_reducible refine (spec_NormalKey.calls a0 t526 _ A2.out).mono ?_); rintro e w6 ⟨rfl, hb⟩; refine ⟨_, rfl, ?_⟩; have n0_ := Aside0.mk (below_step (by repeat (first | (with_reducible first | exact HB.out | apply below_alloc | apply pw_below_drewN | apply below_drew1) | exact HB.out)) hb); clear HB; have HB := n0_; clear n0_; (try clear hb); (try clear hb2); (try clear hk); (try clear hi)))
   go_ret
   exact ⟨by first | rfl | (simp [errW_none, errW_some] <;> rfl) | (simp [*, errW_none, errW_some] <;> rfl), by repeat (first | (with_reducible first | exact HB.out | apply below_alloc | apply pw_below_drewN | apply below_drew1) | exact HB.out)⟩
  ·rw [if_neg c5] at H
   have c5b0 : (t526.toList == ([67, 111, 110, 116, 101, 110, 116, 45, 76, 101, 110, 103, 116, 104] : List UInt8)) = false := beq_eq_false_iff_ne.mpr c5
   have c5b1 : (t526.toList != ([67, 111, 110, 116, 101, 110, 116, 45, 76, 101, 110, 103, 116, 104] : List UInt8)) = true := bne_iff_ne.mpr c5
   by_cases c7 : t526.toList = ([72, 111, 115, 116] : List UInt8)
   ·rw [if_pos c7] at H
    have c7b0 : (t526.toList == ([72, 111, 115, 116] : List UInt8)) = true := beq_iff_eq.mpr c7
    have c7b1 : (t526.toList != ([72, 111, 115, 116] : List UInt8)) = false := bne_eq_false_iff_eq.mpr c7
    clear c7
    obtain rfl := Option.some.inj H
    go_enter Try.func32, Try.ntmps32
    go_wp2_with (first | ((with_reducible refine gate_callee (f := 31) rfl ?_); refine goesL_ (some 5) rfl rfl Try.func31 (by kernel_rfl) rfl #[.string a0] rfl (by (try simp only [List.map_toArray, List.map_cons, List.map_nil]); first | done | rfl | (simp only [List.length_drop, List.length_take]; rfl)) ?_; (with_reducible refine (spec_NormalKey.calls a0 t526 _ A2.out).mono ?_); rintro e w8 ⟨rfl, hb⟩; refine ⟨_, rfl, ?_⟩; have n0_ := Aside0.mk (below_step (by repeat (first | (with_reducible first | exact HB.out | apply below_alloc | apply pw_below_drewN | apply below_drew1) | exact HB.out)) hb); clear HB; have HB := n0_; clear n0_; (try clear hb); (try clear hb2); (try clear hk); (try clear hi)))
    go_ret
    exact ⟨by first | rfl | (simp [errW_none, errW_some] <;> rfl) | (simp [*, errW_none, errW_some] <;> rfl), by repeat (first | (with_reducible first | exact HB.out | apply below_alloc | apply pw_below_drewN | apply below_drew1) | exact HB.out)⟩
   ·rw [if_neg c7] at H
    have c7b0 : (t526.toList == ([72, 111, 115, 116] : List UInt8)) = false := beq_eq_false_iff_ne.mpr c7
    have c7b1 : (t526.toList != ([72, 111, 115, 116] : List UInt8)) = true := bne_iff_ne.mpr c7
    by_cases c9 : t526.toList = ([84, 114, 97, 105, 108, 101, 114] : List UInt8)
    ·rw [if_pos c9] at H
     have c9b0 : (t526.toList == ([84, 114, 97, 105, 108, 101, 114] : List UInt8)) = true := beq_iff_eq.mpr c9
     have c9b1 : (t526.toList != ([84, 114, 97, 105, 108, 101, 114] : List UInt8)) = false := bne_eq_false_iff_eq.mpr c9
     clear c9
     obtain rfl := Option.some.inj H
     go_enter Try.func32, Try.ntmps32
     go_wp2_with (first | ((with_reducible refine gate_callee (f := 31) rfl ?_); refine goesL_ (some 5) rfl rfl Try.func31 (by kernel_rfl) rfl #[.string a0] rfl (by (try simp only [List.map_toArray, List.map_cons, List.map_nil]); first | done | rfl | (simp only [List.length_drop, List.length_take]; rfl)) ?_; (with_reducible refine (spec_NormalKey.calls a0 t526 _ A2.out).mono ?_); rintro e w10 ⟨rfl, hb⟩; refine ⟨_, rfl, ?_⟩; have n0_ := Aside0.mk (below_step (by repeat (first | (with_reducible first | exact HB.out | apply below_alloc | apply pw_below_drewN | apply below_drew1) | exact HB.out)) hb); clear HB; have HB := n0_; clear n0_; (try clear hb); (try clear hb2); (try clear hk); (try clear hi)))
     go_ret
     exact ⟨by first | rfl | (simp [errW_none, errW_some] <;> rfl) | (simp [*, errW_none, errW_some] <;> rfl), by repeat (first | (with_reducible first | exact HB.out | apply below_alloc | apply pw_below_drewN | apply below_drew1) | exact HB.out)⟩
    ·rw [if_neg c9] at H
     have c9b0 : (t526.toList == ([84, 114, 97, 105, 108, 101, 114] : List UInt8)) = false := beq_eq_false_iff_ne.mpr c9
     have c9b1 : (t526.toList != ([84, 114, 97, 105, 108, 101, 114] : List UInt8)) = true := bne_iff_ne.mpr c9
     by_cases c11 : t526.toList = ([84, 101] : List UInt8)
     ·rw [if_pos c11] at H
      have c11b0 : (t526.toList == ([84, 101] : List UInt8)) = true := beq_iff_eq.mpr c11
      have c11b1 : (t526.toList != ([84, 101] : List UInt8)) = false := bne_eq_false_iff_eq.mpr c11
      clear c11
      obtain rfl := Option.some.inj H
      go_enter Try.func32, Try.ntmps32
      go_wp2_with (first | ((with_reducible refine gate_callee (f := 31) rfl ?_); refine goesL_ (some 5) rfl rfl Try.func31 (by kernel_rfl) rfl #[.string a0] rfl (by (try simp only [List.map_toArray, List.map_cons, List.map_nil]); first | done | rfl | (simp only [List.length_drop, List.length_take]; rfl)) ?_; (with_reducible refine (spec_NormalKey.calls a0 t526 _ A2.out).mono ?_); rintro e w12 ⟨rfl, hb⟩; refine ⟨_, rfl, ?_⟩; have n0_ := Aside0.mk (below_step (by repeat (first | (with_reducible first | exact HB.out | apply below_alloc | apply pw_below_drewN | apply below_drew1) | exact HB.out)) hb); clear HB; have HB := n0_; clear n0_; (try clear hb); (try clear hb2); (try clear hk); (try clear hi)))
      go_ret
      exact ⟨by first | rfl | (simp [errW_none, errW_some] <;> rfl) | (simp [*, errW_none, errW_some] <;> rfl), by repeat (first | (with_reducible first | exact HB.out | apply below_alloc | apply pw_below_drewN | apply below_drew1) | exact HB.out)⟩
     ·rw [if_neg c11] at H
      have c11b0 : (t526.toList == ([84, 101] : List UInt8)) = false := beq_eq_false_iff_ne.mpr c11
      have c11b1 : (t526.toList != ([84, 101] : List UInt8)) = true := bne_iff_ne.mpr c11
      by_cases c13 : t526.toList = ([67, 111, 110, 116, 101, 110, 116, 45, 84, 121, 112, 101] : List UInt8)
      ·rw [if_pos c13] at H
       have c13b0 : (t526.toList == ([67, 111, 110, 116, 101, 110, 116, 45, 84, 121, 112, 101] : List UInt8)) = true := beq_iff_eq.mpr c13
       have c13b1 : (t526.toList != ([67, 111, 110, 116, 101, 110, 116, 45, 84, 121, 112, 101] : List UInt8)) = false := bne_eq_false_iff_eq.mpr c13
       clear c13
       obtain rfl := Option.some.inj H
       go_enter Try.func32, Try.ntmps32
       go_wp2_with (first | ((with_reducible refine gate_callee (f := 31) rfl ?_); refine goesL_ (some 5) rfl rfl Try.func31 (by kernel_rfl) rfl #[.string a0] rfl (by (try simp only [List.map_toArray, List.map_cons, List.map_nil]); first | done | rfl | (simp only [List.length_drop, List.length_take]; rfl)) ?_; (with_reducible refine (spec_NormalKey.calls a0 t526 _ A2.out).mono ?_); rintro e w14 ⟨rfl, hb⟩; refine ⟨_, rfl, ?_⟩; have n0_ := Aside0.mk (below_step (by repeat (first | (with_reducible first | exact HB.out | apply below_alloc | apply pw_below_drewN | apply below_drew1) | exact HB.out)) hb); clear HB; have HB := n0_; clear n0_; (try clear hb); (try clear hb2); (try clear hk); (try clear hi)))
       go_ret
       exact ⟨by first | rfl | (simp [errW_none, errW_some] <;> rfl) | (simp [*, errW_none, errW_some] <;> rfl), by repeat (first | (with_reducible first | exact HB.out | apply below_alloc | apply pw_below_drewN | apply below_drew1) | exact HB.out)⟩
      ·rw [if_neg c13] at H
       have c13b0 : (t526.toList == ([67, 111, 110, 116, 101, 110, 116, 45, 84, 121, 112, 101] : List UInt8)) = false := beq_eq_false_iff_ne.mpr c13
       have c13b1 : (t526.toList != ([67, 111, 110, 116, 101, 110, 116, 45, 84, 121, 112, 101] : List UInt8)) = true := bne_iff_ne.mpr c13
       by_cases c15 : t526.toList = ([67, 111, 110, 116, 101, 110, 116, 45, 69, 110, 99, 111, 100, 105, 110, 103] : List UInt8)
       ·rw [if_pos c15] at H
        have c15b0 : (t526.toList == ([67, 111, 110, 116, 101, 110, 116, 45, 69, 110, 99, 111, 100, 105, 110, 103] : List UInt8)) = true := beq_iff_eq.mpr c15
        have c15b1 : (t526.toList != ([67, 111, 110, 116, 101, 110, 116, 45, 69, 110, 99, 111, 100, 105, 110, 103] : List UInt8)) = false := bne_eq_false_iff_eq.mpr c15
        clear c15
        obtain rfl := Option.some.inj H
        go_enter Try.func32, Try.ntmps32
        go_wp2_with (first | ((with_reducible refine gate_callee (f := 31) rfl ?_); refine goesL_ (some 5) rfl rfl Try.func31 (by kernel_rfl) rfl #[.string a0] rfl (by (try simp only [List.map_toArray, List.map_cons, List.map_nil]); first | done | rfl | (simp only [List.length_drop, List.length_take]; rfl)) ?_; (with_reducible refine (spec_NormalKey.calls a0 t526 _ A2.out).mono ?_); rintro e w16 ⟨rfl, hb⟩; refine ⟨_, rfl, ?_⟩; have n0_ := Aside0.mk (below_step (by repeat (first | (with_reducible first | exact HB.out | apply below_alloc | apply pw_below_drewN | apply below_drew1) | exact HB.out)) hb); clear HB; have HB := n0_; clear n0_; (try clear hb); (try clear hb2); (try clear hk); (try clear hi)))
        go_ret
        exact ⟨by first | rfl | (simp [errW_none, errW_some] <;> rfl) | (simp [*, errW_none, errW_some] <;> rfl), by repeat (first | (with_reducible first | exact HB.out | apply below_alloc | apply pw_below_drewN | apply below_drew1) | exact HB.out)⟩
       ·rw [if_neg c15] at H
        have c15b0 : (t526.toList == ([67, 111, 110, 116, 101, 110, 116, 45, 69, 110, 99, 111, 100, 105, 110, 103] : List UInt8)) = false := beq_eq_false_iff_ne.mpr c15
        have c15b1 : (t526.toList != ([67, 111, 110, 116, 101, 110, 116, 45, 69, 110, 99, 111, 100, 105, 110, 103] : List UInt8)) = true := bne_iff_ne.mpr c15
        by_cases c17 : t526.toList = ([67, 111, 110, 116, 101, 110, 116, 45, 82, 97, 110, 103, 101] : List UInt8)
        ·rw [if_pos c17] at H
         have c17b0 : (t526.toList == ([67, 111, 110, 116, 101, 110, 116, 45, 82, 97, 110, 103, 101] : List UInt8)) = true := beq_iff_eq.mpr c17
         have c17b1 : (t526.toList != ([67, 111, 110, 116, 101, 110, 116, 45, 82, 97, 110, 103, 101] : List UInt8)) = false := bne_eq_false_iff_eq.mpr c17
         clear c17
         obtain rfl := Option.some.inj H
         go_enter Try.func32, Try.ntmps32
         go_wp2_with (first | ((with_reducible refine gate_callee (f := 31) rfl ?_); refine goesL_ (some 5) rfl rfl Try.func31 (by kernel_rfl) rfl #[.string a0] rfl (by (try simp only [List.map_toArray, List.map_cons, List.map_nil]); first | done | rfl | (simp only [List.length_drop, List.length_take]; rfl)) ?_; (with_reducible refine (spec_NormalKey.calls a0 t526 _ A2.out).mono ?_); rintro e w18 ⟨rfl, hb⟩; refine ⟨_, rfl, ?_⟩; have n0_ := Aside0.mk (below_step (by repeat (first | (with_reducible first | exact HB.out | apply below_alloc | apply pw_below_drewN | apply below_drew1) | exact HB.out)) hb); clear HB; have HB := n0_; clear n0_; (try clear hb); (try clear hb2); (try clear hk); (try clear hi)))
         go_ret
         exact ⟨by first | rfl | (simp [errW_none, errW_some] <;> rfl) | (simp [*, errW_none, errW_some] <;> rfl), by repeat (first | (with_reducible first | exact HB.out | apply below_alloc | apply pw_below_drewN | apply below_drew1) | exact HB.out)⟩
        ·rw [if_neg c17] at H
         have c17b0 : (t526.toList == ([67, 111, 110, 116, 101, 110, 116, 45, 82, 97, 110, 103, 101] : List UInt8)) = false := beq_eq_false_iff_ne.mpr c17
         have c17b1 : (t526.toList != ([67, 111, 110, 116, 101, 110, 116, 45, 82, 97, 110, 103, 101] : List UInt8)) = true := bne_iff_ne.mpr c17
         by_cases c19 : t526.toList = ([65, 117, 116, 104, 111, 114, 105, 122, 97, 116, 105, 111, 110] : List UInt8)
         ·rw [if_pos c19] at H
          have c19b0 : (t526.toList == ([65, 117, 116, 104, 111, 114, 105, 122, 97, 116, 105, 111, 110] : List UInt8)) = true := beq_iff_eq.mpr c19
          have c19b1 : (t526.toList != ([65, 117, 116, 104, 111, 114, 105, 122, 97, 116, 105, 111, 110] : List UInt8)) = false := bne_eq_false_iff_eq.mpr c19
          clear c19
          obtain rfl := Option.some.inj H
          go_enter Try.func32, Try.ntmps32
          go_wp2_with (first | ((with_reducible refine gate_callee (f := 31) rfl ?_); refine goesL_ (some 5) rfl rfl Try.func31 (by kernel_rfl) rfl #[.string a0] rfl (by (try simp only [List.map_toArray, List.map_cons, List.map_nil]); first | done | rfl | (simp only [List.length_drop, List.length_take]; rfl)) ?_; (with_reducible refine (spec_NormalKey.calls a0 t526 _ A2.out).mono ?_); rintro e w20 ⟨rfl, hb⟩; refine ⟨_, rfl, ?_⟩; have n0_ := Aside0.mk (below_step (by repeat (first | (with_reducible first | exact HB.out | apply below_alloc | apply pw_below_drewN | apply below_drew1) | exact HB.out)) hb); clear HB; have HB := n0_; clear n0_; (try clear hb); (try clear hb2); (try clear hk); (try clear hi)))
          go_ret
          exact ⟨by first | rfl | (simp [errW_none, errW_some] <;> rfl) | (simp [*, errW_none, errW_some] <;> rfl), by repeat (first | (with_reducible first | exact HB.out | apply below_alloc | apply pw_below_drewN | apply below_drew1) | exact HB.out)⟩
         ·rw [if_neg c19] at H
          have c19b0 : (t526.toList == ([65, 117, 116, 104, 111, 114, 105, 122, 97, 116, 105, 111, 110] : List UInt8)) = false := beq_eq_false_iff_ne.mpr c19
          have c19b1 : (t526.toList != ([65, 117, 116, 104, 111, 114, 105, 122, 97, 116, 105, 111, 110] : List UInt8)) = true := bne_iff_ne.mpr c19
          by_cases c21 : t526.toList = ([67, 111, 110, 110, 101, 99, 116, 105, 111, 110] : List UInt8)
          ·rw [if_pos c21] at H
           have c21b0 : (t526.toList == ([67, 111, 110, 110, 101, 99, 116, 105, 111, 110] : List UInt8)) = true := beq_iff_eq.mpr c21
           have c21b1 : (t526.toList != ([67, 111, 110, 110, 101, 99, 116, 105, 111, 110] : List UInt8)) = false := bne_eq_false_iff_eq.mpr c21
           clear c21
           obtain rfl := Option.some.inj H
           go_enter Try.func32, Try.ntmps32
           go_wp2_with (first | ((with_reducible refine gate_callee (f := 31) rfl ?_); refine goesL_ (some 5) rfl rfl Try.func31 (by kernel_rfl) rfl #[.string a0] rfl (by (try simp only [List.map_toArray, List.map_cons, List.map_nil]); first | done | rfl | (simp only [List.length_drop, List.length_take]; rfl)) ?_; (with_reducible refine (spec_NormalKey.calls a0 t526 _ A2.out).mono ?_); rintro e w22 ⟨rfl, hb⟩; refine ⟨_, rfl, ?_⟩; have n0_ := Aside0.mk (below_step (by repeat (first | (with_reducible first | exact HB.out | apply below_alloc | apply pw_below_drewN | apply below_drew1) | exact HB.out)) hb); clear HB; have HB := n0_; clear n0_; (try clear hb); (try clear hb2); (try clear hk); (try clear hi)))
           go_ret
           exact ⟨by first | rfl | (simp [errW_none, errW_some] <;> rfl) | (simp [*, errW_none, errW_some] <;> rfl), by repeat (first | (with_reducible first | exact HB.out | apply below_alloc | apply pw_below_drewN | apply below_drew1) | exact HB.out)⟩
          ·rw [if_neg c21] at H
           have c21b0 : (t526.toList == ([67, 111, 110, 110, 101, 99, 116, 105, 111, 110] : List UInt8)) = false := beq_eq_false_iff_ne.mpr c21
           have c21b1 : (t526.toList != ([67, 111, 110, 110, 101, 99, 116, 105, 111, 110] : List UInt8)) = true := bne_iff_ne.mpr c21
           by_cases c23 : t526.toList = ([77, 97, 120, 45, 70, 111, 114, 119, 97, 114, 100, 115] : List UInt8)
           ·rw [if_pos c23] at H
            have c23b0 : (t526.toList == ([77, 97, 120, 45, 70, 111, 114, 119, 97, 114, 100, 115] : List UInt8)) = true := beq_iff_eq.mpr c23
            have c23b1 : (t526.toList != ([77, 97, 120, 45, 70, 111, 114, 119, 97, 114, 100, 115] : List UInt8)) = false := bne_eq_false_iff_eq.mpr c23
            clear c23
            obtain rfl := Option.some.inj H
            go_enter Try.func32, Try.ntmps32
            go_wp2_with (first | ((with_reducible refine gate_callee (f := 31) rfl ?_); refine goesL_ (some 5) rfl rfl Try.func31 (by kernel_rfl) rfl #[.string a0] rfl (by (try simp only [List.map_toArray, List.map_cons, List.map_nil]); first | done | rfl | (simp only [List.length_drop, List.length_take]; rfl)) ?_; (with_reducible refine (spec_NormalKey.calls a0 t526 _ A2.out).mono ?_); rintro e w24 ⟨rfl, hb⟩; refine ⟨_, rfl, ?_⟩; have n0_ := Aside0.mk (below_step (by repeat (first | (with_reducible first | exact HB.out | apply below_alloc | apply pw_below_drewN | apply below_drew1) | exact HB.out)) hb); clear HB; have HB := n0_; clear n0_; (try clear hb); (try clear hb2); (try clear hk); (try clear hi)))
            go_ret
            exact ⟨by first | rfl | (simp [errW_none, errW_some] <;> rfl) | (simp [*, errW_none, errW_some] <;> rfl), by repeat (first | (with_reducible first | exact HB.out | apply below_alloc | apply pw_below_drewN | apply below_drew1) | exact HB.out)⟩
           ·rw [if_neg c23] at H
            have c23b0 : (t526.toList == ([77, 97, 120, 45, 70, 111, 114, 119, 97, 114, 100, 115] : List UInt8)) = false := beq_eq_false_iff_ne.mpr c23
            have c23b1 : (t526.toList != ([77, 97, 120, 45, 70, 111, 114, 119, 97, 114, 100, 115] : List UInt8)) = true := bne_iff_ne.mpr c23
            by_cases c25 : t526.toList = ([69, 120, 112, 101, 99, 116] : List UInt8)
            ·rw [if_pos c25] at H
             have c25b0 : (t526.toList == ([69, 120, 112, 101, 99, 116] : List UInt8)) = true := beq_iff_eq.mpr c25
             have c25b1 : (t526.toList != ([69, 120, 112, 101, 99, 116] : List UInt8)) = false := bne_eq_false_iff_eq.mpr c25
             clear c25
             obtain rfl := Option.some.inj H
             go_enter Try.func32, Try.ntmps32
             go_wp2_with (first | ((with_reducible refine gate_callee (f := 31) rfl ?_); refine goesL_ (some 5) rfl rfl Try.func31 (by kernel_rfl) rfl #[.string a0] rfl (by (try simp only [List.map_toArray, List.map_cons, List.map_nil]); first | done | rfl | (simp only [List.length_drop, List.length_take]; rfl)) ?_; (with_reducible refine (spec_NormalKey.calls a0 t526 _ A2.out).mono ?_); rintro e w26 ⟨rfl, hb⟩; refine ⟨_, rfl, ?_⟩; have n0_ := Aside0.mk (below_step (by repeat (first | (with_reducible first | exact HB.out | apply below_alloc | apply pw_below_drewN | apply below_drew1) | exact HB.out)) hb); clear HB; have HB := n0_; clear n0_; (try clear hb); (try clear hb2); (try clear hk); (try clear hi)))
             go_ret
             exact ⟨by first | rfl | (simp [errW_none, errW_some] <;> rfl) | (simp [*, errW_none, errW_some] <;> rfl), by repeat (first | (with_reducible first | exact HB.out | apply below_alloc | apply pw_below_drewN | apply below_drew1) | exact HB.out)⟩
            ·rw [if_neg c25] at H
             have c25b0 : (t526.toList == ([69, 120, 112, 101, 99, 116] : List UInt8)) = false := beq_eq_false_iff_ne.mpr c25
             have c25b1 : (t526.toList != ([69, 120, 112, 101, 99, 116] : List UInt8)) = true := bne_iff_ne.mpr c25
             by_cases c27 : t526.toList = ([82, 97, 110, 103, 101] : List UInt8)
             ·rw [if_pos c27] at H
              have c27b0 : (t526.toList == ([82, 97, 110, 103, 101] : List UInt8)) = true := beq_iff_eq.mpr c27
              have c27b1 : (t526.toList != ([82, 97, 110, 103, 101] : List UInt8)) = false := bne_eq_false_iff_eq.mpr c27
              clear c27
              obtain rfl := Option.some.inj H
              go_enter Try.func32, Try.ntmps32
              go_wp2_with (first | ((with_reducible refine gate_callee (f := 31) rfl ?_); refine goesL_ (some 5) rfl rfl Try.func31 (by kernel_rfl) rfl #[.string a0] rfl (by (try simp only [List.map_toArray, List.map_cons, List.map_nil]); first | done | rfl | (simp only [List.length_drop, List.length_take]; rfl)) ?_; (with_reducible refine (spec_NormalKey.calls a0 t526 _ A2.out).mono ?_); rintro e w28 ⟨rfl, hb⟩; refine ⟨_, rfl, ?_⟩; have n0_ := Aside0.mk (below_step (by repeat (first | (with_reducible first | exact HB.out | apply below_alloc | apply pw_below_drewN | apply below_drew1) | exact HB.out)) hb); clear HB; have HB := n0_; clear n0_; (try clear hb); (try clear hb2); (try clear hk); (try clear hi)))
              go_ret
              exact ⟨by first | rfl | (simp [errW_none, errW_some] <;> rfl) | (simp [*, errW_none, errW_some] <;> rfl), by repeat (first | (with_reducible first | exact HB.out | apply below_alloc | apply pw_below_drewN | apply below_drew1) | exact HB.out)⟩
             ·rw [if_neg c27] at H
              have c27b0 : (t526.toList == ([82, 97, 110, 103, 101] : List UInt8)) = false := beq_eq_false_iff_ne.mpr c27
              have c27b1 : (t526.toList != ([82, 97, 110, 103, 101] : List UInt8)) = true := bne_iff_ne.mpr c27
              by_cases c29 : t526.toList = ([87, 119, 119, 45, 65, 117, 116, 104, 101, 110, 116, 105, 99, 97, 116, 101] : List UInt8)
              ·rw [if_pos c29] at H
               have c29b0 : (t526.toList == ([87, 119, 119, 45, 65, 117, 116, 104, 101, 110, 116, 105, 99, 97, 116, 101] : List UInt8)) = true := beq_iff_eq.mpr c29
               have c29b1 : (t526.toList != ([87, 119, 119, 45, 65, 117, 116, 104, 101, 110, 116, 105, 99, 97, 116, 101] : List UInt8)) = false := bne_eq_false_iff_eq.mpr c29
               clear c29
               obtain rfl := Option.some.inj H
               go_enter Try.func32, Try.ntmps32
               go_wp2_with (first | ((with_reducible refine gate_callee (f := 31) rfl ?_); refine goesL_ (some 5) rfl rfl Try.func31 (by kernel_rfl) rfl #[.string a0] rfl (by (try simp only [List.map_toArray, List.map_cons, List.map_nil]); first | done | rfl | (simp only [List.length_drop, List.length_take]; rfl)) ?_; (with_reducible refine (spec_NormalKey.calls a0 t526 _ A2.out).mono ?_); rintro e w30 ⟨rfl, hb⟩; refine ⟨_, rfl, ?_⟩; have n0_ := Aside0.mk (below_step (by repeat (first | (with_reducible first | exact HB.out | apply below_alloc | apply pw_below_drewN | apply below_drew1) | exact HB.out)) hb); clear HB; have HB := n0_; clear n0_; (try clear hb); (try clear hb2); (try clear hk); (try clear hi)))
               go_ret
               exact ⟨by first | rfl | (simp [errW_none, errW_some] <;> rfl) | (simp [*, errW_none, errW_some] <;> rfl), by repeat (first | (with_reducible first | exact HB.out | apply below_alloc | apply pw_below_drewN | apply below_drew1) | exact HB.out)⟩
              ·rw [if_neg c29] at H
               have c29b0 : (t526.toList == ([87, 119, 119, 45, 65, 117, 116, 104, 101, 110, 116, 105, 99, 97, 116, 101] : List UInt8)) = false := beq_eq_false_iff_ne.mpr c29
               have c29b1 : (t526.toList != ([87, 119, 119, 45, 65, 117, 116, 104, 101, 110, 116, 105, 99, 97, 116, 101] : List UInt8)) = true := bne_iff_ne.mpr c29
               by_cases c31 : t526.toList = ([80, 114, 111, 120, 121, 45, 65, 117, 116, 104, 101, 110, 116, 105, 99, 97, 116, 101] : List UInt8)
               ·rw [if_pos c31] at H
                have c31b0 : (t526.toList == ([80, 114, 111, 120, 121, 45, 65, 117, 116, 104, 101, 110, 116, 105, 99, 97, 116, 101] : List UInt8)) = true := beq_iff_eq.mpr c31
                have c31b1 : (t526.toList != ([80, 114, 111, 120, 121, 45, 65, 117, 116, 104, 101, 110, 116, 105, 99, 97, 116, 101] : List UInt8)) = false := bne_eq_false_iff_eq.mpr c31
                clear c31
                obtain rfl := Option.some.inj H
                go_enter Try.func32, Try.ntmps32
                go_wp2_with (first | ((with_reducible refine gate_callee (f := 31) rfl ?_); refine goesL_ (some 5) rfl rfl Try.func31 (by kernel_rfl) rfl #[.string a0] rfl (by (try simp only [List.map_toArray, List.map_cons, List.map_nil]); first | done | rfl | (simp only [List.length_drop, List.length_take]; rfl)) ?_; (with_reducible refine (spec_NormalKey.calls a0 t526 _ A2.out).mono ?_); rintro e w32 ⟨rfl, hb⟩; refine ⟨_, rfl, ?_⟩; have n0_ := Aside0.mk (below_step (by repeat (first | (with_reducible first | exact HB.out | apply below_alloc | apply pw_below_drewN | apply below_drew1) | exact HB.out)) hb); clear HB; have HB := n0_; clear n0_; (try clear hb); (try clear hb2); (try clear hk); (try clear hi)))
                go_ret
                exact ⟨by first | rfl | (simp [errW_none, errW_some] <;> rfl) | (simp [*, errW_none, errW_some] <;> rfl), by repeat (first | (with_reducible first | exact HB.out | apply below_alloc | apply pw_below_drewN | apply below_drew1) | exact HB.out)⟩
               ·rw [if_neg c31] at H
                have c31b0 : (t526.toList == ([80, 114, 111, 120, 121, 45, 65, 117, 116, 104, 101, 110, 116, 105, 99, 97, 116, 101] : List UInt8)) = false := beq_eq_false_iff_ne.mpr c31
                have c31b1 : (t526.toList != ([80, 114, 111, 120, 121, 45, 65, 117, 116, 104, 101, 110, 116, 105, 99, 97, 116, 101] : List UInt8)) = true := bne_iff_ne.mpr c31
                by_cases c33 : t526.toList = ([80, 114, 111, 120, 121, 45, 65, 117, 116, 104, 111, 114, 105, 122, 97, 116, 105, 111, 110] : List UInt8)
                ·rw [if_pos c33] at H
                 have c33b0 : (t526.toList == ([80, 114, 111, 120, 121, 45, 65, 117, 116, 104, 111, 114, 105, 122, 97, 116, 105, 111, 110] : List UInt8)) = true := beq_iff_eq.mpr c33
                 have c33b1 : (t526.toList != ([80, 114, 111, 120, 121, 45, 65, 117, 116, 104, 111, 114, 105, 122, 97, 116, 105, 111, 110] : List UInt8)) = false := bne_eq_false_iff_eq.mpr c33
                 clear c33
                 obtain rfl := Option.some.inj H
                 go_enter Try.func32, Try.ntmps32
                 go_wp2_with (first | ((with_reducible refine gate_callee (f := 31) rfl ?_); refine goesL_ (some 5) rfl rfl Try.func31 (by kernel_rfl) rfl #[.string a0] rfl (by (try simp only [List.map_toArray, List.map_cons, List.map_nil]); first | done | rfl | (simp only [List.length_drop, List.length_take]; rfl)) ?_; (with_reducible refine (spec_NormalKey.calls a0 t526 _ A2.out).mono ?_); rintro e w34 ⟨rfl, hb⟩; refine ⟨_, rfl, ?_⟩; have n0_ := Aside0.mk (below_step (by repeat (first | (with_reducible first | exact HB.out | apply below_alloc | apply pw_below_drewN | apply below_drew1) | exact HB.out)) hb); clear HB; have HB := n0_; clear n0_; (try clear hb); (try clear hb2); (try clear hk); (try clear hi)))
                 go_ret
                 exact ⟨by first | rfl | (simp [errW_none, errW_some] <;> rfl) | (simp [*, errW_none, errW_some] <;> rfl), by repeat (first | (with_reducible first | exact HB.out | apply below_alloc | apply pw_below_drewN | apply below_drew1) | exact HB.out)⟩
                ·rw [if_neg c33] at H
                 have c33b0 : (t526.toList == ([80, 114, 111, 120, 121, 45, 65, 117, 116, 104, 111, 114, 105, 122, 97, 116, 105, 111, 110] : List UInt8)) = false := beq_eq_false_iff_ne.mpr c33
                 have c33b1 : (t526.toList != ([80, 114, 111, 120, 121, 45, 65, 117, 116, 104, 111, 114, 105, 122, 97, 116, 105, 111, 110] : List UInt8)) = true := bne_iff_ne.mpr c33
                 replace H := Option.bind_eq_some_iff.mp H
                 obtain ⟨t527, A350, H⟩ := H
                 replace H : (if (t527.size : Int) > 2 then (if 0 ≤ 2 then (if 2 ≤ (t527.size : Int) then (if (t527.extract 0 2).toList = ([88, 45] : List UInt8) then ((spec_word.f k t527).bind fun t528 => (if t528 = true then (some 0) else (some 2))) else (some 2)) else (none)) else (none)) else (some 2)) = some r := H
                 have A35 := Aside0.mk A350
                 clear A350
                 by_cases c36 : (t527.size : Int) > 2
                 ·rw [if_pos c36] at H
                  have c36b0 : decide (2 < (t527.size : Int)) = true := decide_eq_true c36
                  have c36b1 : decide (2 < t527.size) = true := decide_eq_true (by omega)
                  clear c36
                  by_cases c37 : 0 ≤ 2
                  ·rw [if_pos c37] at H
                   have c37b0 := eq_true c37
                   have c37b1 : decide (0 ≤ 2) = true := decide_eq_true c37
                   clear c37
                   by_cases c38 : 2 ≤ (t527.size : Int)
                   ·rw [if_pos c38] at H
                    have c38b0 := eq_true c38
                    have c38b1 : decide (2 ≤ (t527.size : Int)) = true := decide_eq_true c38
                    clear c38
                    by_cases c39 : (t527.extract 0 2).toList = ([88, 45] : List UInt8)
                    ·rw [if_pos c39] at H
                     have c39b0 : ((t527.extract 0 2).toList == ([88, 45] : List UInt8)) = true := beq_iff_eq.mpr c39
                     have c39b1 : ((t527.extract 0 2).toList != ([88, 45] : List UInt8)) = false := bne_eq_false_iff_eq.mpr c39
                     clear c39
                     replace H := Option.bind_eq_some_iff.mp H
                     obtain ⟨t528, A400, H⟩ := H
                     replace H : (if t528 = true then (some 0) else (some 2)) = some r := H
                     have A40 := Aside0.mk A400
                     clear A400
                     by_cases c41 : t528 = true
                     ·subst c41
                      have H1 : (some 0) = some r := by rw [if_pos rfl] at H; exact H
                      clear H
                      have H := H1
                      clear H1
                      try (obtain rfl : t527 = t526 := Option.some.inj (A35.out.symm.trans A2.out))
                      obtain rfl := Option.some.inj H
                      go_enter Try.func32, Try.ntmps32
                      go_wp2_with (first | ((with_reducible refine gate_callee (f := 31) rfl ?_); refine goesL_ (some 5) rfl rfl Try.func31 (by kernel_rfl) rfl #[.string a0] rfl (by (try simp only [List.map_toArray, List.map_cons, List.map_nil]); first | done | rfl | (simp only [List.length_drop, List.length_take]; rfl)) ?_; (with_reducible refine (spec_NormalKey.calls a0 t527 _ A2.out).mono ?_); rintro e w42 ⟨rfl, hb⟩; refine ⟨_, rfl, ?_⟩; have n0_ := Aside0.mk (below_step (by repeat (first | (with_reducible first | exact HB.out | apply below_alloc | apply pw_below_drewN | apply below_drew1) | exact HB.out)) hb); clear HB; have HB := n0_; clear n0_; (try clear hb); (try clear hb2); (try clear hk); (try clear hi)) | ((with_reducible refine gate_callee (f := 31) rfl ?_); refine goesL_ (some 24) rfl rfl Try.func31 (by kernel_rfl) rfl #[.string a0] rfl (by (try simp only [List.map_toArray, List.map_cons, List.map_nil]); first | done | rfl | (simp only [List.length_drop, List.length_take]; rfl)) ?_; (with_reducible refine (spec_NormalKey.calls a0 t527 _ A35.out).mono ?_); rintro e w43 ⟨rfl, hb⟩; refine ⟨_, rfl, ?_⟩; have n0_ := Aside0.mk (below_step (by repeat (first | (with_reducible first | exact HB.out | apply below_alloc | apply pw_below_drewN | apply below_drew1) | exact HB.out)) hb); clear HB; have HB := n0_; clear n0_; (try clear hb); (try clear hb2); (try clear hk); (try clear hi)) | (go_at_call 36; (with_reducible refine (spec_word.calls k t527 true _ A40.out).mono ?_); rintro e w' ⟨rfl, ⟨nd, rfl⟩⟩))
                      go_ret
                      exact ⟨by first | rfl | (simp [errW_none, errW_some] <;> rfl) | (simp [*, errW_none, errW_some] <;> rfl), by repeat (first | (with_reducible first | exact HB.out | apply below_alloc | apply pw_below_drewN | apply below_drew1) | exact HB.out)⟩
                     ·replace c41 := Bool.eq_false_iff.mpr c41
                      subst c41
                      have H1 : (some 2) = some r := by rw [if_neg (show ¬ (false = true) by decide)] at H; exact H
                      clear H
                      have H := H1
                      clear H1
                      try (obtain rfl : t527 = t526 := Option.some.inj (A35.out.symm.trans A2.out))
                      obtain rfl := Option.some.inj H
                      go_enter Try.func32, Try.ntmps32
                      go_wp2_with (first | ((with_reducible refine gate_callee (f := 31) rfl ?_); refine goesL_ (some 5) rfl rfl Try.func31 (by kernel_rfl) rfl #[.string a0] rfl (by (try simp only [List.map_toArray, List.map_cons, List.map_nil]); first | done | rfl | (simp only [List.length_drop, List.length_take]; rfl)) ?_; (with_reducible refine (spec_NormalKey.calls a0 t527 _ A2.out).mono ?_); rintro e w44 ⟨rfl, hb⟩; refine ⟨_, rfl, ?_⟩; have n0_ := Aside0.mk (below_step (by repeat (first | (with_reducible first | exact HB.out | apply below_alloc | apply pw_below_drewN | apply below_drew1) | exact HB.out)) hb); clear HB; have HB := n0_; clear n0_; (try clear hb); (try clear hb2); (try clear hk); (try clear hi)) | ((with_reducible refine gate_callee (f := 31) rfl ?_); refine goesL_ (some 24) rfl rfl Try.func31 (by kernel_rfl) rfl #[.string a0] rfl (by (try simp only [List.map_toArray, List.map_cons, List.map_nil]); first | done | rfl | (simp only [List.length_drop, List.length_take]; rfl)) ?_; (with_reducible refine (spec_NormalKey.calls a0 t527 _ A35.out).mono ?_); rintro e w45 ⟨rfl, hb⟩; refine ⟨_, rfl, ?_⟩; have n0_ := Aside0.mk (below_step (by repeat (first | (with_reducible first | exact HB.out | apply below_alloc | apply pw_below_drewN | apply below_drew1) | exact HB.out)) hb); clear HB; have HB := n0_; clear n0_; (try clear hb); (try clear hb2); (try clear hk); (try clear hi)) | (go_at_call 36; (with_reducible refine (spec_word.calls k t527 false _ A40.out).mono ?_); rintro e w' ⟨rfl, ⟨nd, rfl⟩⟩))
                      go_ret
                      exact ⟨by first | rfl | (simp [errW_none, errW_some] <;> rfl) | (simp [*, errW_none, errW_some] <;> rfl), by repeat (first | (with_reducible first | exact HB.out | apply below_alloc | apply pw_below_drewN | apply below_drew1) | exact HB.out)⟩
                    ·rw [if_neg c39] at H
                     have c39b0 : ((t527.extract 0 2).toList == ([88, 45] : List UInt8)) = false := beq_eq_false_iff_ne.mpr c39
                     have c39b1 : ((t527.extract 0 2).toList != ([88, 45] : List UInt8)) = true := bne_iff_ne.mpr c39
                     try (obtain rfl : t527 = t526 := Option.some.inj (A35.out.symm.trans A2.out))
                     obtain rfl := Option.some.inj H
                     go_enter Try.func32, Try.ntmps32
                     go_wp2_with (first | ((with_reducible refine gate_callee (f := 31) rfl ?_); refine goesL_ (some 5) rfl rfl Try.func31 (by kernel_rfl) rfl #[.string a0] rfl (by (try simp only [List.map_toArray, List.map_cons, List.map_nil]); first | done | rfl | (simp only [List.length_drop, List.length_take]; rfl)) ?_; (with_reducible refine (spec_NormalKey.calls a0 t527 _ A2.out).mono ?_); rintro e w46 ⟨rfl, hb⟩; refine ⟨_, rfl, ?_⟩; have n0_ := Aside0.mk (below_step (by repeat (first | (with_reducible first | exact HB.out | apply below_alloc | apply pw_below_drewN | apply below_drew1) | exact HB.out)) hb); clear HB; have HB := n0_; clear n0_; (try clear hb); (try clear hb2); (try clear hk); (try clear hi)) | ((with_reducible refine gate_callee (f := 31) rfl ?_); refine goesL_ (some 24) rfl rfl Try.func31 (by kernel_rfl) rfl #[.string a0] rfl (by (try simp only [List.map_toArray, List.map_cons, List.map_nil]); first | done | rfl | (simp only [List.length_drop, List.length_take]; rfl)) ?_; (with_reducible refine (spec_NormalKey.calls a0 t527 _ A35.out).mono ?_); rintro e w47 ⟨rfl, hb⟩; refine ⟨_, rfl, ?_⟩; have n0_ := Aside0.mk (below_step (by repeat (first | (with_reducible first | exact HB.out | apply below_alloc | apply pw_below_drewN | apply below_drew1) | exact HB.out)) hb); clear HB; have HB := n0_; clear n0_; (try clear hb); (try clear hb2); (try clear hk); (try clear hi)))
                     go_ret
                     exact ⟨by first | rfl | (simp [errW_none, errW_some] <;> rfl) | (simp [*, errW_none, errW_some] <;> rfl), by repeat (first | (with_reducible first | exact HB.out | apply below_alloc | apply pw_below_drewN | apply below_drew1) | exact HB.out)⟩
                   ·rw [if_neg c38] at H
                    exact absurd H (by simp)
                  ·rw [if_neg c37] at H
                   exact absurd H (by simp)
                 ·rw [if_neg c36] at H
                  have c36b0 : decide (2 < (t527.size : Int)) = false := decide_eq_false c36
                  have c36b1 : decide (2 < t527.size) = false := decide_eq_false (by omega)
                  clear c36
                  try (obtain rfl : t527 = t526 := Option.some.inj (A35.out.symm.trans A2.out))
                  obtain rfl := Option.some.inj H
                  go_enter Try.func32, Try.ntmps32
                  go_wp2_with (first | ((with_reducible refine gate_callee (f := 31) rfl ?_); refine goesL_ (some 5) rfl rfl Try.func31 (by kernel_rfl) rfl #[.string a0] rfl (by (try simp only [List.map_toArray, List.map_cons, List.map_nil]); first | done | rfl | (simp only [List.length_drop, List.length_take]; rfl)) ?_; (with_reducible refine (spec_NormalKey.calls a0 t527 _ A2.out).mono ?_); rintro e w48 ⟨rfl, hb⟩; refine ⟨_, rfl, ?_⟩; have n0_ := Aside0.mk (below_step (by repeat (first | (with_reducible first | exact HB.out | apply below_alloc | apply pw_below_drewN | apply below_drew1) | exact HB.out)) hb); clear HB; have HB := n0_; clear n0_; (try clear hb); (try clear hb2); (try clear hk); (try clear hi)) | ((with_reducible refine gate_callee (f := 31) rfl ?_); refine goesL_ (some 24) rfl rfl Try.func31 (by kernel_rfl) rfl #[.string a0] rfl (by (try simp only [List.map_toArray, List.map_cons, List.map_nil]); first | done | rfl | (simp only [List.length_drop, List.length_take]; rfl)) ?_; (with_reducible refine (spec_NormalKey.calls a0 t527 _ A35.out).mono ?_); rintro e w49 ⟨rfl, hb⟩; refine ⟨_, rfl, ?_⟩; have n0_ := Aside0.mk (below_step (by repeat (first | (with_reducible first | exact HB.out | apply below_alloc | apply pw_below_drewN | apply below_drew1) | exact HB.out)) hb); clear HB; have HB := n0_; clear n0_; (try clear hb); (try clear hb2); (try clear hk); (try clear hi)))
                  go_ret
                  exact ⟨by first | rfl | (simp [errW_none, errW_some] <;> rfl) | (simp [*, errW_none, errW_some] <;> rfl), by repeat (first | (with_reducible first | exact HB.out | apply below_alloc | apply pw_below_drewN | apply below_drew1) | exact HB.out)⟩
end Go.Proofs.Ytoimkmoalmmooaa.QA
namespace Go.Proofs.Ytoimkmoalmmooaa.Given
open Go.RowKit Go.Proofs.YtoimkmoalmmooaaW.PrintWords Go.Proofs.YtoimkmoalmmooaaW.PrintLast Go.Proofs.YtoimkmoalmmooaaW.PrintMore Go.Proofs.Ytoimkmoalmmooaa.Base Go.Proofs.Ytoimkmoalmmooaa.Gv
def laws_low.f (a0 : ByteArray) : Option ByteArray := if a0.size ≤ 4611686018427387904 then some (strOfNums ((ns a0).map lo)) else none
def laws_normal.f (a0 : ByteArray) : Option ByteArray := if a0.size ≤ 4611686018427387904 then some (strOfNums (nk (ns a0))) else none
end Go.Proofs.Ytoimkmoalmmooaa.Given
namespace Go.Proofs.Ytoimkmoalmmooaa.Base
open Go.RowKit Go.Proofs.Ytoimkmoalmmooaa.QA Go.Proofs.YtoimkmoalmmooaaW.PrintWords Go.Proofs.YtoimkmoalmmooaaW.PrintLast Go.Proofs.Ytoimkmoalmmooaa.Given Go.Proofs.Ytoimkmoalmmooaa.Gv
abbrev Pr2 := S34
theorem rdPair_nat (l : List Pr2) (i : Nat) (h : i < l.length) : rd_T34 l (i : Int) = l[i] := by
  unfold rd_T34
  simp [List.getD_eq_getElem?_getD, h]
def valuesP (H : List Pr2) (key : ByteArray) : List ByteArray := (H.filter fun p => decide (p.f0 = key)).map fun p => p.f1
def setP (key v : ByteArray) : List Pr2 → List Pr2
  | [] => [⟨key, v⟩]
  | p :: t => if p.f0 = key then ⟨p.f0, v⟩ :: t else p :: setP key v t
def withoutP (H : List Pr2) (key : ByteArray) : List Pr2 := H.filter fun p => !decide (p.f0 = key)
theorem filter_snoc {α : Type} (p : α → Bool) (H : List α) (i : Nat) (h : i < H.length) : (H.take (i + 1)).filter p = (H.take i).filter p ++ (if p H[i] = true then [H[i]] else []) := by
  rw [List.take_succ_eq_append_getElem h, List.filter_append]
  cases hp : p H[i] <;> simp [hp]
abbrev SP := S72
abbrev SSt := S66
abbrev SAn := S68
theorem rdS_nat (l : List SP) (i : Nat) (h : i < l.length) : rd_T72 l (i : Int) = l[i] := by
  unfold rd_T72
  simp [List.getD_eq_getElem?_getD, h]
def allS (H : List SP) (key : ByteArray) : List ByteArray := (H.filter fun p => decide (p.f0 = key)).map fun p => p.f1
def setS (key v : ByteArray) : List SP → List SP
  | [] => [⟨key, v⟩]
  | p :: t => if p.f0 = key then ⟨p.f0, v⟩ :: t else p :: setS key v t
def withoutS (H : List SP) (key : ByteArray) : List SP := H.filter fun p => !decide (p.f0 = key)
theorem allS_length (H : List SP) (key : ByteArray) : (allS H key).length ≤ H.length := by
  unfold allS
  rw [List.length_map]
  exact List.length_filter_le _ _
theorem allS_ends (H : List SP) (key : ByteArray) (hH : H.length ≤ 1000000000) : Ev (fun k => spec_allOf.f k H key) (allS H key) := by
  have key_ : ∀ d i : Nat, i + d = H.length → Ev (fun k => spec_allOf.l0 k key (allS (H.take i) key) H (H.length : Int) (i : Int)) (allS H key) := by
    intro d
    induction d with
    | zero =>
      intro i hi
      refine Ev.step (f := fun _ => some _) (fun k => ?_) (Ev.val (a := allS (H.take i) key) ?_)
      · simp only [spec_allOf.l0]; rw [if_neg (by omega)]
      · rw [List.take_of_length_le (by omega)]
    | succ d ih =>
      intro i hi
      have hlt : i < H.length := by omega
      have hih := ih (i + 1) (by omega)
      have hl := allS_length (H.take i) key
      have hl2 : (H.take i).length ≤ i := List.length_take_le _ _
      by_cases c : (H[i]).f0 = key
      · have e : allS (H.take (i + 1)) key = allS (H.take i) key ++ [(H[i]).f1] := by
          unfold allS
          rw [filter_snoc _ _ _ hlt, if_pos (by simpa using c), List.map_append]; rfl
        rw [e] at hih
        refine Ev.step (fun k => ?_) hih
        simp only [spec_allOf.l0]
        rw [if_pos (by omega), if_pos (by omega), if_pos (by omega), rdS_nat _ _ hlt, wrap_add (by omega) (by omega), if_pos (by rw [c]), if_pos (by omega)]
        rfl
      · have e : allS (H.take (i + 1)) key = allS (H.take i) key := by
          unfold allS
          rw [filter_snoc _ _ _ hlt, if_neg (by simpa using c), List.append_nil]
        rw [e] at hih
        refine Ev.step (fun k => ?_) hih
        simp only [spec_allOf.l0]
        rw [if_pos (by omega), if_pos (by omega), if_pos (by omega), rdS_nat _ _ hlt, wrap_add (by omega) (by omega), if_neg (fun h => c ((toList_eq_iff _ _).1 h))]
        rfl
  have := key_ H.length 0 (by omega)
  simp only [spec_allOf.f]
  exact this
theorem firstS_ends (H : List SP) (key : ByteArray) (hH : H.length ≤ 1000000000) : Ev (fun k => spec_firstOf.f k H key) ((allS H key).headD ⟨#[]⟩) := by
  have key_ : ∀ d i : Nat, i + d = H.length → Ev (fun k => spec_firstOf.l0 k key H (H.length : Int) (i : Int)) ((allS (H.drop i) key).headD ⟨#[]⟩) := by
    intro d
    induction d with
    | zero =>
      intro i hi
      refine Ev.step (f := fun _ => some _) (fun k => ?_) (Ev.val (a := (⟨#[]⟩ : ByteArray)) ?_)
      · simp only [spec_firstOf.l0]; rw [if_neg (by omega)]
      · rw [List.drop_eq_nil_of_le (by omega)]; rfl
    | succ d ih =>
      intro i hi
      have hlt : i < H.length := by omega
      rw [List.drop_eq_getElem_cons hlt]
      by_cases c : (H[i]).f0 = key
      · refine Ev.step (f := fun _ => some (H[i]).f1) (fun k => ?_) (Ev.val ?_)
        · simp only [spec_firstOf.l0]
          rw [if_pos (by omega), if_pos (by omega), if_pos (by omega), rdS_nat _ _ hlt, if_pos (by rw [c])]
        · unfold allS; rw [List.filter_cons, if_pos (by simpa using c)]; rfl
      · have e : allS (H[i] :: H.drop (i + 1)) key = allS (H.drop (i + 1)) key := by unfold allS; rw [List.filter_cons, if_neg (by simpa using c)]
        rw [e]
        refine Ev.step (fun k => ?_) (ih (i + 1) (by omega))
        simp only [spec_firstOf.l0]
        rw [if_pos (by omega), if_pos (by omega), if_pos (by omega), rdS_nat _ _ hlt, wrap_add (by omega) (by omega), if_neg (fun h => c ((toList_eq_iff _ _).1 h))]
        rfl
  have := key_ H.length 0 (by omega)
  simp only [spec_firstOf.f]
  exact this
theorem withoutS_ends (H : List SP) (key : ByteArray) (hH : H.length ≤ 1000000000) : Ev (fun k => spec_without.f k H key) (withoutS H key) := by
  have key_ : ∀ d i : Nat, i + d = H.length → Ev (fun k => spec_without.l0 k key (withoutS (H.take i) key) H (H.length : Int) (i : Int)) (withoutS H key) := by
    intro d
    induction d with
    | zero =>
      intro i hi
      refine Ev.step (f := fun _ => some _) (fun k => ?_) (Ev.val (a := withoutS (H.take i) key) ?_)
      · simp only [spec_without.l0]; rw [if_neg (by omega)]
      · rw [List.take_of_length_le (by omega)]
    | succ d ih =>
      intro i hi
      have hlt : i < H.length := by omega
      have hih := ih (i + 1) (by omega)
      have hl : (withoutS (H.take i) key).length ≤ i := Nat.le_trans (List.length_filter_le _ _) (List.length_take_le _ _)
      by_cases c : (H[i]).f0 = key
      · have e : withoutS (H.take (i + 1)) key = withoutS (H.take i) key := by
          unfold withoutS
          rw [filter_snoc _ _ _ hlt, if_neg (by simpa using c), List.append_nil]
        rw [e] at hih
        refine Ev.step (fun k => ?_) hih
        simp only [spec_without.l0]
        rw [if_pos (by omega), if_pos (by omega), if_pos (by omega), rdS_nat _ _ hlt, if_pos (by rw [c]), wrap_add (by omega) (by omega)]
        rfl
      · have e : withoutS (H.take (i + 1)) key = withoutS (H.take i) key ++ [H[i]] := by
          unfold withoutS
          rw [filter_snoc _ _ _ hlt, if_pos (by simpa using c)]
        rw [e] at hih
        refine Ev.step (fun k => ?_) hih
        simp only [spec_without.l0]
        rw [if_pos (by omega), if_pos (by omega), if_pos (by omega), rdS_nat _ _ hlt, if_neg (fun h => c ((toList_eq_iff _ _).1 h)), if_pos (by omega), wrap_add (by omega) (by omega)]
        rfl
  have := key_ H.length 0 (by omega)
  simp only [spec_without.f]
  exact this
theorem setS_none (key v : ByteArray) : ∀ (H : List SP), (∀ p ∈ H, ¬ p.f0 = key) → setS key v H = H ++ [⟨key, v⟩]
  | [], _ => rfl
  | p :: t, h => by
    rw [setS, if_neg (h p (by simp)), setS_none key v t (fun q hq => h q (List.mem_cons_of_mem _ hq))]; rfl
theorem setS_at (key v : ByteArray) : ∀ (H : List SP) (i : Nat) (h : i < H.length), (∀ p ∈ H.take i, ¬ p.f0 = key) → (H[i]).f0 = key → setS key v H = H.set i ⟨(H[i]).f0, v⟩
  | p :: t, 0, _, _, e => by rw [setS, if_pos (show p.f0 = key from e)]; rfl
  | p :: t, i + 1, h, hn, e => by
    rw [setS, if_neg (hn p (by simp)), List.set_cons_succ, setS_at key v t i (by simpa using h) (fun q hq => hn q (by rw [List.take_succ_cons]; exact List.mem_cons_of_mem _ hq)) e]
    rfl
def toSt (s : S28) : SSt := ⟨s.f0, s.f1, s.f2, s.f3, s.f4⟩
theorem stepsOf_ends (l : List S28) (hl : l.length ≤ 1000000000) : Ev (fun k => laws_stepsOf.f k l) (l.map toSt) := by
  have key_ : ∀ d i : Nat, i + d = l.length → Ev (fun k => laws_stepsOf.l0 k ((l.take i).map toSt) l (l.length : Int) (i : Int)) (l.map toSt) := by
    intro d
    induction d with
    | zero =>
      intro i hi
      refine Ev.step (f := fun _ => some _) (fun k => ?_) (Ev.val (a := (l.take i).map toSt) ?_)
      · simp only [laws_stepsOf.l0]; rw [if_neg (by omega)]
      · rw [List.take_of_length_le (by omega)]
    | succ d ih =>
      intro i hi
      have hlt : i < l.length := by omega
      have hih := ih (i + 1) (by omega)
      have e : (l.take (i + 1)).map toSt = (l.take i).map toSt ++ [toSt l[i]] := by rw [List.take_succ_eq_append_getElem hlt, List.map_append]; rfl
      rw [e] at hih
      have hl2 : ((l.take i).map toSt).length ≤ i := by rw [List.length_map]; exact List.length_take_le _ _
      refine Ev.step (fun k => ?_) hih
      simp only [laws_stepsOf.l0]
      rw [if_pos (by omega), if_pos (by omega), if_pos (by omega), if_pos (by omega), rdStep_nat _ _ hlt, wrap_add (by omega) (by omega)]
      rfl
  have := key_ l.length 0 (by omega)
  simp only [laws_stepsOf.f]
  exact this
theorem sprinted_is (s : ByteArray) (k : Nat) : ∀ i : Int, spec_printed.l0 k s i = laws_printed.l0 k s (s.size : Int) i := by
  induction k with
  | zero => intro i; rfl
  | succ k ih =>
    intro i
    simp only [spec_printed.l0, laws_printed.l0]
    by_cases h1 : i < (s.size : Int)
    · rw [if_pos h1, if_pos h1]
      by_cases h0 : 0 ≤ i
      · rw [if_pos h0, if_pos h0, if_pos h1]
        by_cases hb : bt s i < 32
        · rw [if_pos hb, if_pos hb]
        · rw [if_neg hb, if_neg hb]
          by_cases hc : bt s i ≥ 127
          · rw [if_pos hc, if_pos (show bt s i > 126 by omega)]
          · rw [if_neg hc, if_neg (show ¬ bt s i > 126 by omega), ih]
      · rw [if_neg h0, if_neg h0]
    · rw [if_neg h1, if_neg h1]
theorem sprinted_ends (s : ByteArray) (hs : s.size ≤ 140737488351232) : Ev (fun k => spec_printed.f k s) (isPrinted s) := by
  obtain ⟨k, hk⟩ := printed_ends s hs
  exact ⟨k, fun j hj => by
    have := hk j hj
    simp only [spec_printed.f]
    rw [sprinted_is]
    exact this⟩
def wdB (x : Int) : Bool := decide (97 ≤ x ∧ x ≤ 122) || decide (65 ≤ x ∧ x ≤ 90) || decide (48 ≤ x ∧ x ≤ 57) || decide (x = 45)
def wordS (s : ByteArray) : Bool := (ns s).all wdB && !decide (s.size = 0)
theorem wordS_ends (s : ByteArray) (hs : s.size ≤ 140737488351232) : Ev (fun k => spec_word.f k s) (wordS s) := by
  have key_ : ∀ d i : Nat, i + d = s.size → Ev (fun k => spec_word.l0 k s (i : Int)) (((ns s).drop i).all wdB && !decide (s.size = 0)) := by
    intro d
    induction d with
    | zero =>
      intro i hi
      rw [List.drop_eq_nil_of_le (by rw [ns_length]; omega), List.all_nil, Bool.true_and]
      refine Ev.step (f := fun _ => some (s.toList != ([] : List UInt8))) (fun k => ?_) (Ev.val ?_)
      · simp only [spec_word.l0]; rw [if_neg (by omega)]
      · rw [Bool.eq_iff_iff]
        rw [bne_iff_ne, Bool.not_eq_true', decide_eq_false_iff_not]
        rw [Lib.toList_data, ne_eq, ← List.length_eq_zero_iff, ← Lib.size_eq]
    | succ d ih =>
      intro i hi
      have hlt : i < (ns s).length := by rw [ns_length]; omega
      have hb : bt s (i : Int) = (ns s)[i] := by rw [bt_ns, List.getD_eq_getElem?_getD, List.getElem?_eq_getElem hlt]; rfl
      have hih := ih (i + 1) (by omega)
      rw [List.drop_eq_getElem_cons hlt, List.all_cons, ← hb]
      obtain ⟨b, hbb⟩ : ∃ b, bt s (i : Int) = b := ⟨_, rfl⟩
      rw [hbb]
      cases hw : wdB b with
      | true =>
        rw [Bool.true_and]
        refine Ev.step (fun k => ?_) hih
        simp only [spec_word.l0]
        rw [if_pos (by omega), if_pos (by omega), wrap_add (by omega) (by omega), hbb]
        unfold wdB at hw
        simp only [Bool.or_eq_true, decide_eq_true_eq] at hw
        repeat' (first | rfl | (exfalso; omega) | split)
      | false =>
        rw [Bool.false_and, Bool.false_and]
        refine Ev.step (f := fun _ => some false) (fun k => ?_) (Ev.now _)
        simp only [spec_word.l0]
        rw [if_pos (by omega), if_pos (by omega), hbb]
        unfold wdB at hw
        simp only [Bool.or_eq_false_iff, decide_eq_false_iff_not] at hw
        repeat' (first | rfl | (exfalso; omega) | split)
  have := key_ s.size 0 (by omega)
  simp only [spec_word.f]
  exact this
def badS (t : ByteArray) : Int := if t.toList = ([84, 114, 97, 110, 115, 102, 101, 114, 45, 69, 110, 99, 111, 100, 105, 110, 103] : List UInt8) then 1 else if t.toList = ([67, 111, 110, 116, 101, 110, 116, 45, 76, 101, 110, 103, 116, 104] : List UInt8) then 1 else if t.toList = ([72, 111, 115, 116] : List UInt8) then 1 else if t.toList = ([84, 114, 97, 105, 108, 101, 114] : List UInt8) then 1 else if t.toList = ([84, 101] : List UInt8) then 1 else if t.toList = ([67, 111, 110, 116, 101, 110, 116, 45, 84, 121, 112, 101] : List UInt8) then 1 else if t.toList = ([67, 111, 110, 116, 101, 110, 116, 45, 69, 110, 99, 111, 100, 105, 110, 103] : List UInt8) then 1 else if t.toList = ([67, 111, 110, 116, 101, 110, 116, 45, 82, 97, 110, 103, 101] : List UInt8) then 1 else if t.toList = ([65, 117, 116, 104, 111, 114, 105, 122, 97, 116, 105, 111, 110] : List UInt8) then 1 else if t.toList = ([67, 111, 110, 110, 101, 99, 116, 105, 111, 110] : List UInt8) then 1 else if t.toList = ([77, 97, 120, 45, 70, 111, 114, 119, 97, 114, 100, 115] : List UInt8) then 1 else if t.toList = ([69, 120, 112, 101, 99, 116] : List UInt8) then 1 else if t.toList = ([82, 97, 110, 103, 101] : List UInt8) then 1 else if t.toList = ([87, 119, 119, 45, 65, 117, 116, 104, 101, 110, 116, 105, 99, 97, 116, 101] : List UInt8) then 1 else if t.toList = ([80, 114, 111, 120, 121, 45, 65, 117, 116, 104, 101, 110, 116, 105, 99, 97, 116, 101] : List UInt8) then 1 else if t.toList = ([80, 114, 111, 120, 121, 45, 65, 117, 116, 104, 111, 114, 105, 122, 97, 116, 105, 111, 110] : List UInt8) then 1 else if 2 < t.size ∧ (t.extract 0 2).toList = ([88, 45] : List UInt8) ∧ wordS t = true then 0 else 2
theorem badS_ends (s : ByteArray) (hs : s.size ≤ 1000000000000) : Ev (fun k => spec_BadTrailer.f k s) (badS (strOfNums (nk (ns s)))) := by
  obtain ⟨t, ht⟩ : ∃ t, strOfNums (nk (ns s)) = t := ⟨_, rfl⟩
  have hn : spec_NormalKey.f s = some t := by rw [← ht]; exact if_pos (by omega)
  have hsz : t.size ≤ 140737488351232 := by rw [← ht, strOfNums_size, nk_length, ns_length]; omega
  rw [ht]
  unfold badS spec_BadTrailer.f
  refine Ev.call hn ?_
  refine Ev.ite (fun c => by rw [if_pos c]; exact Ev.now _) (fun c => ?_)
  rw [if_neg c]
  refine Ev.ite (fun c => by rw [if_pos c]; exact Ev.now _) (fun c => ?_)
  rw [if_neg c]
  refine Ev.ite (fun c => by rw [if_pos c]; exact Ev.now _) (fun c => ?_)
  rw [if_neg c]
  refine Ev.ite (fun c => by rw [if_pos c]; exact Ev.now _) (fun c => ?_)
  rw [if_neg c]
  refine Ev.ite (fun c => by rw [if_pos c]; exact Ev.now _) (fun c => ?_)
  rw [if_neg c]
  refine Ev.ite (fun c => by rw [if_pos c]; exact Ev.now _) (fun c => ?_)
  rw [if_neg c]
  refine Ev.ite (fun c => by rw [if_pos c]; exact Ev.now _) (fun c => ?_)
  rw [if_neg c]
  refine Ev.ite (fun c => by rw [if_pos c]; exact Ev.now _) (fun c => ?_)
  rw [if_neg c]
  refine Ev.ite (fun c => by rw [if_pos c]; exact Ev.now _) (fun c => ?_)
  rw [if_neg c]
  refine Ev.ite (fun c => by rw [if_pos c]; exact Ev.now _) (fun c => ?_)
  rw [if_neg c]
  refine Ev.ite (fun c => by rw [if_pos c]; exact Ev.now _) (fun c => ?_)
  rw [if_neg c]
  refine Ev.ite (fun c => by rw [if_pos c]; exact Ev.now _) (fun c => ?_)
  rw [if_neg c]
  refine Ev.ite (fun c => by rw [if_pos c]; exact Ev.now _) (fun c => ?_)
  rw [if_neg c]
  refine Ev.ite (fun c => by rw [if_pos c]; exact Ev.now _) (fun c => ?_)
  rw [if_neg c]
  refine Ev.ite (fun c => by rw [if_pos c]; exact Ev.now _) (fun c => ?_)
  rw [if_neg c]
  refine Ev.ite (fun c => by rw [if_pos c]; exact Ev.now _) (fun c => ?_)
  rw [if_neg c]
  refine Ev.call hn ?_
  by_cases c1 : 2 < t.size
  · refine Ev.if_true (by omega) (Ev.if_true (by omega) (Ev.if_true (by omega) ?_))
    by_cases c2 : (t.extract 0 2).toList = ([88, 45] : List UInt8)
    · refine Ev.if_true c2 (Ev.bind (wordS_ends t hsz) ?_)
      by_cases hw : wordS t = true
      · rw [show (if 2 < t.size ∧ (t.extract 0 2).toList = ([88, 45] : List UInt8) ∧ wordS t = true then (0 : Int) else 2) = 0 from if_pos ⟨c1, c2, hw⟩]; exact Ev.if_true hw (Ev.now _)
      · rw [show (if 2 < t.size ∧ (t.extract 0 2).toList = ([88, 45] : List UInt8) ∧ wordS t = true then (0 : Int) else 2) = 2 from if_neg (fun h => hw h.2.2)]; exact Ev.if_false hw (Ev.now _)
    · rw [if_neg (fun h => c2 h.2.1)]
      exact Ev.if_false c2 (Ev.now _)
  · rw [if_neg (fun h => c1 h.1)]
    exact Ev.if_false (by omega) (Ev.now _)
end Go.Proofs.Ytoimkmoalmmooaa.Base
namespace Go.Proofs.Ytoimkmoalmmooaa.Own
open Go.RowKit Go.Proofs.YtoimkmoalmmooaaW.PrintWords Go.Proofs.YtoimkmoalmmooaaW.PrintLast Go.Proofs.YtoimkmoalmmooaaW.PrintMore Go.Proofs.Ytoimkmoalmmooaa.Base Go.Proofs.Ytoimkmoalmmooaa.Gv Go.Proofs.Ytoimkmoalmmooaa.Given Go.Proofs.Ytoimkmoalmmooaa.QA
theorem emptyS_R (w : World) : Kd.R k72 72 (w.alloc (.cells #[] 72)) w.heap.size (fun _ => True) (.slice (some ⟨w.heap.size, 0, none⟩) 0 0) [] :=
  ⟨fun k hk => trivial, [], World.ownsRow_lit (base := w.heap.size) (e := 72) (size := 2) w #[] 0 (Nat.le_refl _) (by unfold maxLen; omega) (by simp), Reps.none _ _⟩
set_option maxHeartbeats 2000000 in
set_option maxRecDepth 100000 in
theorem specSet_calls (w : World) (A0 : Option Addr) (c0 : Nat) (H : List SP) (key v : ByteArray) (hr : Kd.C k72 w A0 H.length H) (hH : H.length ≤ 1000000) :
    Calls Try.prog 35 #[.slice A0 H.length c0, .string key, .string v] w fun e w' => ∃ v0, e = .returned v0 ∧ Kd.R k72 72 w' w.heap.size (fun _ => True) v0 (setS key v H) ∧ Below w.heap.size w w' := by
  have HC := Lib.hid hr
  clear hr
  go_enter Try.func35, Try.ntmps35
  go_wp2_with (first | (
                        at_builtin
                        refine Kd.R_append_rows k72 (w0 := w) w.heap.size rfl (.tmp 9) (.tmp 10) 65 72 (.agg #[(.string ⟨#[]⟩), (.string ⟨#[]⟩)]) 32 rfl Try.underlying65 info72 rfl (by decide) (by omega) _ [] H _ _ _ (fun _ => True) (fun _ => False) rfl rfl ?aO ?aR (fun _ _ h => h) (fun _ h => h.elim) ?aF ?aB ?aS ?aL ?_
                        (case aO => exact emptyS_R w)
                        (case aR => exact Kd.C_alloc HC.out _)
                        (case aF => exact fun _ _ => trivial)
                        (case aB => exact (Below.refl _ _).alloc (Nat.le_refl _) _)
                        (case aS => first | (simp; done) | (simp; omega))
                        (case aL => first | omega | (simp; omega))
                        intro v8 w8 ho8 hb8 hg8 hat8
                        simp only [List.nil_append] at ho8
                        obtain ⟨A8, c8, rfl, hc8, hC8⟩ := Kd.R_reads ho8
                        have HO8 := Lib.hid ho8
                        have HB8 := Lib.hid hb8
                        have HC8 := Lib.hid hC8
                        clear ho8 hb8 hg8 hat8 hc8 hC8))
  go_loopw [14] (fun iv wr => ∃ (i : Nat), iv = .int .i64 i ∧ w8 = wr ∧ i ≤ H.length ∧ Hid (∀ p ∈ H.take i, ¬ p.f0 = key)) (fun iv _ => H.length - (intOf iv).toNat)
  case atStart => exact ⟨0, rfl, rfl, by omega, Lib.hid (by simp)⟩
  case round =>
    obtain ⟨i, rfl, rfl, hi, HNO⟩ := hrel
    by_cases hlt : i < H.length
    · obtain ⟨p, hp⟩ : ∃ p, H[i] = p := ⟨_, rfl⟩
      have hlt' : decide ((i : Int) < (H.length : Int)) = true := decide_eq_true (by omega)
      by_cases hk : p.f0 = key
      · have hk' : (p.f0.toList == key.toList) = true := by rw [hk]; exact beq_self_eq_true _
        obtain ⟨g, cap, hA, hgb, hgl, cells, hgc⟩ := Kd.R_form HO8.out (by omega)
        injection hA with hA1 hA2 hA3
        subst hA1 hA3
        obtain ⟨ce, hcl, hM, hcc, hfr⟩ := Kd.R_elem HO8.out z72 (i : Int) (by omega) (by omega)
        obtain rfl := k72_openM hM
        have hgd : (H.getD (i : Int).toNat z72) = p := by rw [List.getD_eq_getElem?_getD, Int.toNat_natCast, List.getElem?_eq_getElem hlt, hp]; rfl
        have HP := Kd.R_seg HO8.out (i : Int) (by omega) (by omega) (seg := [.string v]) (j := 1) hcl hcc (show 2 ≤ 2 from by decide) (x' := (⟨p.f0, v⟩ : SP)) (by rw [hgd]; exact k72_mkM _ _ _ (⟨p.f0, v⟩ : SP)) (fun _ hk => hk)
        have z0 := hcc 0 _ rfl
        have z1 := hcc 1 _ rfl
        have zf := hfr 1
        rw [hgd] at z0
        simp only [show k72.sz = 2 from rfl, Int.toNat_natCast, Nat.add_zero] at z0 z1 zf
        have HPP := Lib.hid HP.1
        have HGB := Lib.hid hgb
        clear HP hcl hcc hfr hgl hgc hgd hgb
        go_wp2
        go_ret
        refine ⟨_, rfl, ?_, HB8.out.setCell HGB.out _⟩
        rw [setS_at key v H i hlt HNO.out (by rw [hp]; exact hk), hp]
        exact HPP.out
      · have hk' : (p.f0.toList == key.toList) = false := beq_eq_false_iff_ne.mpr (fun e => hk ((toList_eq_iff _ _).1 e))
        obtain ⟨ad, e0, y0, y1⟩ := at_T72 HC8.out (i : Int) (by omega) (by omega)
        cases e0
        rw [rdS_nat _ _ hlt, hp] at y0 y1
        simp only [Int.toNat_natCast] at y0 y1
        go_wp2
        have ht : H.take (i + 1) = H.take i ++ [p] := by rw [List.take_succ_eq_append_getElem hlt, hp]
        exact ⟨⟨i + 1, by simp, by first | trivial | rfl, by omega, Lib.hid (by rw [ht]; intro q hq; rcases List.mem_append.1 hq with hq | hq; exact HNO.out q hq; rw [List.mem_singleton] at hq; rw [hq]; exact hk)⟩, by simp [intOf]; omega⟩
    · obtain rfl : i = H.length := by omega
      have hno := HNO.out
      rw [List.take_of_length_le (Nat.le_refl _)] at hno
      have HNO2 := Lib.hid hno
      have hq_ : ¬ (H.length : Int) < (H.length : Int) := by omega
      clear hno
      go_wp2_with (first | (
                            at_builtin
                            refine Kd.R_append k72 (w0 := w) w.heap.size rfl (.tmp 31) (.tmp 35) 65 72 (.agg #[(.string ⟨#[]⟩), (.string ⟨#[]⟩)]) 32 rfl Try.underlying65 info72 rfl (by decide) (by omega) _ H (⟨key, v⟩ : SP) [.string key, .string v] (fun _ => True) (fun _ => False) rfl (by first | (go_simp; done) | (go_simp; rfl)) ?aP (fun _ hk => hk.elim) ?aF ?aO ?aB ?aS ?aL ?_
                            (case aP => exact k72_mkM _ _ _ (⟨key, v⟩ : SP))
                            (case aF => exact fun _ _ => trivial)
                            (case aO => exact HO8.out)
                            (case aB => exact HB8.out)
                            (case aS => exact HB8.out.size)
                            (case aL => omega)
                            intro v9 w9 ho9 hb9 hg9 hat9
                            have HO9 := Lib.hid ho9
                            have HB9 := Lib.hid hb9
                            clear ho9 hb9 hg9 hat9))
      go_ret
      exact ⟨_, rfl, by rw [setS_none key v H HNO2.out]; exact HO9.out, HB9.out⟩
end Go.Proofs.Ytoimkmoalmmooaa.Own
namespace Go.Proofs.Ytoimkmoalmmooaa.Own
open Go.RowKit Go.Proofs.YtoimkmoalmmooaaW.PrintWords Go.Proofs.YtoimkmoalmmooaaW.PrintLast Go.Proofs.YtoimkmoalmmooaaW.PrintMore Go.Proofs.Ytoimkmoalmmooaa.Base Go.Proofs.Ytoimkmoalmmooaa.Gv
structure Stp (F : Nat → Prop) (l l' : Nat → Nat) (w w' : World) : Prop where
  os : w'.os = w.os
  tape : w'.tape = w.tape
  output : w'.output = w.output
  size : w.heap.size ≤ w'.heap.size
  lab : ∀ b, b < w.heap.size → l' b = l b
  block : ∀ b, b < w.heap.size → ¬ F (l b) → w'.heap[b]? = w.heap[b]?
theorem Stp.refl (F : Nat → Prop) (l : Nat → Nat) (w : World) : Stp F l l w w := ⟨rfl, rfl, rfl, Nat.le_refl _, fun _ _ => rfl, fun _ _ _ => rfl⟩
theorem Stp.trans {F : Nat → Prop} {l l1 l2 : Nat → Nat} {w w1 w2 : World} (h : Stp F l l1 w w1) (k : Stp F l1 l2 w1 w2) : Stp F l l2 w w2 :=
  ⟨k.os.trans h.os, k.tape.trans h.tape, k.output.trans h.output, Nat.le_trans h.size k.size, fun b hb => (k.lab b (Nat.lt_of_lt_of_le hb h.size)).trans (h.lab b hb),
    fun b hb hf => (k.block b (Nat.lt_of_lt_of_le hb h.size) (by rw [h.lab b hb]; exact hf)).trans (h.block b hb hf)⟩
theorem Stp.mono {F G : Nat → Prop} {l l1 : Nat → Nat} {w w1 : World} (h : Stp F l l1 w w1) (hf : ∀ z, F z → G z) : Stp G l l1 w w1 :=
  ⟨h.os, h.tape, h.output, h.size, h.lab, fun b hb hg => h.block b hb (fun k => hg (hf _ k))⟩
def ext (l : Nat → Nat) (n z : Nat) : Nat → Nat := fun b => if b < n then l b else z
theorem ext_old (l : Nat → Nat) {n z b : Nat} (h : b < n) : ext l n z b = l b := if_pos h
theorem ext_new (l : Nat → Nat) {n z b : Nat} (h : n ≤ b) : ext l n z b = z := if_neg (by omega)
theorem Stp.below {F : Nat → Prop} {l l1 : Nat → Nat} {w w1 : World} (h : Stp F l l1 w w1) {B : Nat} (hB : B ≤ w.heap.size) (hl : ∀ b, b < B → ¬ F (l b)) : Below B w w1 :=
  ⟨h.os, h.tape, h.output, h.size, fun b hb => h.block b (by omega) (hl b hb)⟩
theorem Stp.of_below {w w1 : World} (h : Below w.heap.size w w1) (F : Nat → Prop) (l : Nat → Nat) (z : Nat) : Stp F l (ext l w.heap.size z) w w1 :=
  ⟨h.os, h.tape, h.output, h.size, fun b hb => ext_old l hb, fun b hb _ => h.block b hb⟩
theorem Stp.of_below_same {w w1 : World} (h : Below w.heap.size w w1) (F : Nat → Prop) (l : Nat → Nat) : Stp F l l w w1 :=
  ⟨h.os, h.tape, h.output, h.size, fun b hb => rfl, fun b hb _ => h.block b hb⟩
theorem Stp.set {l : Nat → Nat} (w : World) (a : Addr) (v : Value) : Stp (· = l a.block) l l w (w.setCell a v) :=
  ⟨rfl, rfl, rfl, by simp, fun _ _ => rfl, fun b hb hf => Below.heap_setCell _ _ _ _ (fun e => hf (by rw [e]))⟩
def Cl (l : Nat → Nat) (w : World) (z p : Nat) (T : TypeId) (cs : Array Value) : Prop := w.heap[p]? = some (.cells cs T (0, 0)) ∧ l p = z
section
variable {l l1 : Nat → Nat} {w w1 : World} {z p : Nat} {T : TypeId} {cs : Array Value} {F : Nat → Prop}
theorem Cl.lt (h : Cl l w z p T cs) : p < w.heap.size := (Array.getElem?_eq_some_iff.1 h.1).1
theorem Cl.cell (h : Cl l w z p T cs) (o : Nat) : w.cell? ⟨p, o, none⟩ = cs[o]? := cell_of_row w p o _ _ (0, 0) h.1
theorem Cl.free (h : Cl l w z p T cs) (o : Nat) : w.frozen? ⟨p, o, none⟩ = false := frozen_of_row _ _ o _ _ h.1
theorem Cl.keep (h : Cl l w z p T cs) (s : Stp F l l1 w w1) (hz : ¬ F z) : Cl l1 w1 z p T cs :=
  ⟨(s.block p h.lt (by rw [h.2]; exact hz)).trans h.1, (s.lab p h.lt).trans h.2⟩
theorem Cl.set (h : Cl l w z p T cs) (o : Nat) (v : Value) : Cl l (w.setCell ⟨p, o, none⟩ v) z p T (cs.setIfInBounds o v) ∧ Stp (· = z) l l w (w.setCell ⟨p, o, none⟩ v) :=
  ⟨⟨heap_setCell_same w p o cs T v h.1, h.2⟩, by have := Stp.set (l := l) w ⟨p, o, none⟩ v; rwa [show l (⟨p, o, none⟩ : Addr).block = z from h.2] at this⟩
end
def Bf (l : Nat → Nat) (w : World) (z : Nat) (v : Value) (xs : List Int) : Prop := w.ownsRow 0 5 1 v xs.length (nums .u8 xs) ∧ ∀ b, v.ownBlock = some b → l b = z
section
variable {l l1 : Nat → Nat} {w w1 : World} {z : Nat} {v : Value} {xs ys : List Int} {F : Nat → Prop}
theorem Bf.nil (l : Nat → Nat) (w : World) (z : Nat) : Bf l w z (.slice none 0 0) [] := ⟨World.ownsRow_nil w 0 _ 1, fun b hb => by simp [Value.ownBlock] at hb⟩
theorem Bf.keep (h : Bf l w z v xs) (s : Stp F l l1 w w1) (hz : ¬ F z) : Bf l1 w1 z v xs := by
  obtain ⟨ho, hb⟩ := h
  refine ⟨⟨ho.1, ?_⟩, fun b e => (s.lab b (ho.lt b e).2).trans (hb b e)⟩
  rcases ho.2 with hn | ⟨g, cap, cur, rfl, h0, hg, rest⟩
  · exact .inl hn
  · have hlt := (Array.getElem?_eq_some_iff.1 hg).1
    exact .inr ⟨g, cap, cur, rfl, h0, (s.block g hlt (by rw [hb g rfl]; exact hz)).trans hg, rest⟩
theorem Bf.cut (h : Bf l w z v xs) (k : Nat) (hk : k ≤ xs.length) : ∃ A c, v = .slice A xs.length c ∧ xs.length ≤ c ∧ Bf l w z (.slice A k c) (xs.take k) := by
  obtain ⟨ho, hb⟩ := h
  have hlk : (xs.take k).length = k := by rw [List.length_take]; omega
  rcases ho.2 with ⟨rfl, hn⟩ | ⟨g, cap, cur, rfl, h0, hg, hnc, hcm, hcs, htk⟩
  · obtain rfl : xs = [] := List.eq_nil_of_length_eq_zero hn
    obtain rfl : k = 0 := by simpa using hk
    exact ⟨none, 0, rfl, Nat.le_refl _, Bf.nil l w z⟩
  · refine ⟨_, cap, rfl, hnc, ⟨by simp [nums], .inr ⟨g, cap, cur, by rw [hlk], h0, hg, by rw [hlk]; omega, hcm, hcs, ?_⟩⟩, fun b e => hb b e⟩
    have : (cur.toList.take (xs.length * 1)).take k = (nums .u8 xs).take k := by rw [htk]
    rw [List.take_take, Nat.mul_one, Nat.min_eq_left hk] at this
    rw [hlk, Nat.mul_one, this]
    simp [nums, List.map_take]
theorem Bf.slice (h : Bf l w z v xs) : ∃ A c, v = .slice A xs.length c ∧ xs.length ≤ c := by
  obtain ⟨A, c, h1, h2, _⟩ := h.cut 0 (Nat.zero_le _)
  exact ⟨A, c, h1, h2⟩
theorem Bf.cut0 {A : Option Addr} {n c : Nat} (h : Bf l w z (.slice A n c) xs) : n = xs.length ∧ Bf l w z (.slice A 0 c) [] := by
  obtain ⟨A', c', h1, h2, h3⟩ := h.cut 0 (Nat.zero_le _)
  injection h1 with e1 e2 e3
  subst e1 e3
  exact ⟨e2, by simpa using h3⟩
theorem Bf.appended (h : Bf l w z v xs) {v' : Value} (ho : w1.ownsRow 0 5 1 v' ys.length (nums .u8 ys)) (hg : w.grownBy w1 v.ownBlock) (hv : v'.ownBlock = v.ownBlock ∨ ∃ b, v'.ownBlock = some b ∧ w.heap.size ≤ b) :
    Bf (ext l w.heap.size z) w1 z v' ys ∧ Stp (· = z) l (ext l w.heap.size z) w w1 := by
  refine ⟨⟨ho, fun b e => ?_⟩, ⟨hg.os, hg.tape, hg.output, hg.size, fun b hb => ext_old l hb, fun b hb hf => hg.block b hb (fun e => hf (h.2 b e.symm))⟩⟩
  rcases hv with hv | ⟨b', hv, hs⟩
  · rw [hv] at e
    rw [ext_old l (h.1.lt b e).2]
    exact h.2 b e
  · rw [hv] at e
    injection e with e
    subst e
    exact ext_new l hs
theorem Bf.reads {A : Option Addr} {n c : Nat} (h : Bf l w z (.slice A n c) xs) : ReadsInt w .u8 A xs.length xs := by
  obtain ⟨⟨_, h1⟩, _⟩ := h
  rcases h1 with ⟨h1, hn⟩ | ⟨g, cap, cur, h1, h0, hg, hnc, hcm, hcs, htk⟩
  · injection h1 with e1 e2 e3
    subst e1 e2 e3
    obtain rfl : xs = [] := List.eq_nil_of_length_eq_zero hn
    exact ⟨rfl, by simp, fun h => by simp at h⟩
  · injection h1 with e1 e2 e3
    subst e1 e2 e3
    refine ⟨rfl, by unfold maxLen at hcm; omega, fun _ => ⟨_, rfl, fun i hi => ?_⟩⟩
    rw [Addr.add_lit, Nat.zero_add, cell_of_row w g i _ _ (0, 0) hg]
    have := congrArg (fun l => l[i]?) htk
    simp only [List.getElem?_take] at this
    rw [if_pos (by omega)] at this
    rw [Array.getElem?_toList] at this
    rw [this]
    simp [nums, List.getD_eq_getElem?_getD, List.getElem?_eq_getElem hi]
theorem Bf.byte {A : Option Addr} {n c : Nat} (h : Bf l w z (.slice A n c) xs) (hx : xs ≠ []) : ∃ g, A = some ⟨g, 0, none⟩ ∧ l g = z := by
  obtain ⟨⟨_, h1⟩, h2⟩ := h
  rcases h1 with ⟨h1, hn⟩ | ⟨g, cap, cur, h1, _⟩
  · exact absurd (List.eq_nil_of_length_eq_zero hn) hx
  · injection h1 with e1 e2 e3
    subst e1
    exact ⟨g, rfl, h2 g rfl⟩
end
theorem own_some {v v1 : Value} {n : Nat} (hv : v1.ownBlock = v.ownBlock ∨ ∃ b, v1.ownBlock = some b ∧ n ≤ b) (h : v.ownBlock ≠ none) : v1.ownBlock ≠ none := by
  rcases hv with e | ⟨b, e, _⟩
  · rw [e]; exact h
  · rw [e]; exact fun k => by cases k
theorem app_row {P : Program} {ops : Array Oper} {rest : List Oper} {o : Oper} {a : Act} {Q : Exit → Act → World → Prop} {l : Nat → Nat} {W : World} (z : Nat) (hgd : o.guard = none) (s x : Operand) (t : TypeId)
    (ho : o.op = .call { callee := .builtin .append, args := #[s, x], argTypes := #[t, t] })
    (ht : P.underlying t = some (.slice 5)) (hinfo : (P.info? 5).map (fun i => (i.zero, i.size, i.bytes)) = some (some (.int .u8 0), 1, 1))
    (v : Value) (xs ys : List Int) (A : Option Addr) (m c : Nat) (hs : a.eval s = v) (hx : a.eval x = .slice A m c)
    (HO : Bf l W z v xs) (HR : ReadsInt W .u8 A m ys) (hl : xs.length + m ≤ 140737488355328)
    (h : ∀ v1 w1 l1, Bf l1 w1 z v1 (xs ++ ys) → Stp (· = z) l l1 W w1 → (v.ownBlock ≠ none → v1.ownBlock ≠ none) → wpList P ops Q rest (a.put o.dst v1) w1) :
    wpList P ops Q (o :: rest) a W :=
  print_append_row (w0 := W) 0 hgd s x t 5 .u8 1 ho ht hinfo (by decide) v xs ys A m c hs hx HO.1 HR (Below.refl _ _) (Nat.zero_le _) (by omega)
    (fun v1 w1 hown _ hg hv => (fun q => h v1 w1 _ q.1 q.2 (own_some hv)) (HO.appended hown hg hv))
theorem run_app_str {P : Program} {l : Nat → Nat} {W : World} {z : Nat} (t u ty : TypeId)
    (ht : P.underlying t = some (.slice 5)) (hu : P.underlying u = some .string) (hinfo : (P.info? 5).map (fun i => (i.zero, i.size, i.bytes)) = some (some (.int .u8 0), 1, 1))
    (v : Value) (xs : List Int) (s : ByteArray) (HO : Bf l W z v xs) (hl : xs.length + s.size ≤ 140737488355328) :
    ∃ v1 w1 l1, (Builtin.append_ #[t, u] ty #[v, .string s]).run P W = .ok v1 w1 ∧ Bf l1 w1 z v1 (xs ++ ns s) ∧ Stp (· = z) l l1 W w1 ∧ (v.ownBlock ≠ none → v1.ownBlock ≠ none) := by
  obtain ⟨i0, hi, hz0, hz1, hz2⟩ := info_parts hinfo
  have hmx : xs.length + s.size ≤ maxLen := by simp only [maxLen]; omega
  have hown := HO.1
  have hlen : (nums .u8 xs).length = xs.length := by simp [nums]
  obtain ⟨v1, w1, hr, ho, hg, _⟩ := Lib.run_append_own_string (P := P) W 0 t u ty 5 i0 ht hu hi hz0 hz1 hz2 v xs.length (nums .u8 xs) hown s hmx hl (Nat.zero_le _)
  have hat : v1.ownBlock = v.ownBlock ∨ ∃ b, v1.ownBlock = some b ∧ W.heap.size ≤ b := by
    rcases hown.2 with ⟨rfl, hn⟩ | ⟨g, cap, cur, rfl, _, hgg, hnc, hcm, hcs, htk⟩
    · obtain ⟨v2, w2, hr2, ho2, _, _⟩ := Lib.run_append_own_string (P := P) W W.heap.size t u ty 5 i0 ht hu hi hz0 hz1 hz2 (.slice none 0 0) 0 [] (World.ownsRow_nil _ _ _ _) s (by omega) (by omega) (Nat.le_refl _)
      rw [hr] at hr2
      cases hr2
      cases hb : v1.ownBlock with
      | none => exact .inl rfl
      | some b => exact .inr ⟨b, rfl, (ho2.lt b hb).1⟩
    · by_cases hroom : xs.length + s.size ≤ cap
      · rw [Lib.run_append_room_string (P := P) W t u ty 5 i0 ht hu hi hz1 g xs.length cap cur hgg s hroom (by omega)] at hr
        cases hr
        exact .inl rfl
      · rw [Lib.run_append_grow_string (P := P) W t u ty 5 i0 _ ht hu hi hz0 ⟨g, 0, none⟩ xs.length cap (nums .u8 xs) (by rw [hz1, hlen, Nat.mul_one]) (hown.cells (g := g) rfl) s (by omega) (by omega) (growslice_fits (by omega) (by rw [hz2]; omega))] at hr
        cases hr
        exact .inr ⟨_, rfl, Nat.le_refl _⟩
  have e : nums .u8 xs ++ Lib.strCells s = nums .u8 (xs ++ ns s) := by
    rw [nums_append]
    congr 1
    simp [nums, ns, Lib.strCells]
  have e2 : xs.length + s.size = (xs ++ ns s).length := by rw [List.length_append, ns_length]
  rw [e, e2] at ho
  exact ⟨v1, w1, _, hr, (HO.appended ho hg hat).1, (HO.appended ho hg hat).2, own_some hat⟩
theorem app_str {P : Program} {ops : Array Oper} {rest : List Oper} {o : Oper} {a : Act} {Q : Exit → Act → World → Prop} {l : Nat → Nat} {W : World} (z : Nat) (hgd : o.guard = none) (s x : Operand) (t u : TypeId)
    (ho : o.op = .call { callee := .builtin .append, args := #[s, x], argTypes := #[t, u] })
    (ht : P.underlying t = some (.slice 5)) (hu : P.underlying u = some .string) (hinfo : (P.info? 5).map (fun i => (i.zero, i.size, i.bytes)) = some (some (.int .u8 0), 1, 1))
    (v : Value) (xs : List Int) (y : ByteArray) (hs : a.eval s = v) (hx : a.eval x = .string y)
    (HO : Bf l W z v xs) (hl : xs.length + y.size ≤ 140737488355328)
    (h : ∀ v1 w1 l1, Bf l1 w1 z v1 (xs ++ ns y) → Stp (· = z) l l1 W w1 → (v.ownBlock ≠ none → v1.ownBlock ≠ none) → wpList P ops Q rest (a.put o.dst v1) w1) :
    wpList P ops Q (o :: rest) a W := by
  obtain ⟨v1, w1, l1, hr, hB, hS, hN⟩ := run_app_str (P := P) t u o.type ht hu hinfo v xs y HO hl
  refine wpList_plain hgd fun K hK => ?_
  unfold Oper.wp execOp
  simp only [ho, resolve, invoke, builtin, Sem.run_bind, Sem.run_pure, Result.andThen_ok, List.map_toArray, List.map_cons, List.map_nil, hs, hx, hr]
  exact hK _ _ (h v1 w1 l1 hB hS hN)
theorem app_run {P : Program} {ops : Array Oper} {rest : List Oper} {o : Oper} {a : Act} {Q : Exit → Act → World → Prop} {W w1 : World} (hgd : o.guard = none) (s x : Operand) (t u : TypeId)
    (ho : o.op = .call { callee := .builtin .append, args := #[s, x], argTypes := #[t, u] }) (V X v1 : Value) (hs : a.eval s = V) (hx : a.eval x = X)
    (hr : (Builtin.append_ #[t, u] o.type #[V, X]).run P W = .ok v1 w1) (h : wpList P ops Q rest (a.put o.dst v1) w1) : wpList P ops Q (o :: rest) a W := by
  refine wpList_plain hgd fun K hK => ?_
  unfold Oper.wp execOp
  simp only [ho, resolve, invoke, builtin, Sem.run_bind, Sem.run_pure, Result.andThen_ok, List.map_toArray, List.map_cons, List.map_nil, hs, hx, hr]
  exact hK _ _ h
end Go.Proofs.Ytoimkmoalmmooaa.Own
namespace Go.Proofs.Ytoimkmoalmmooaa.Own
open Go.RowKit Go.Proofs.YtoimkmoalmmooaaW.PrintWords Go.Proofs.YtoimkmoalmmooaaW.PrintLast Go.Proofs.YtoimkmoalmmooaaW.PrintMore Go.Proofs.Ytoimkmoalmmooaa.Base Go.Proofs.Ytoimkmoalmmooaa.Gv
structure Slot where
  id : Nat
  k : Value
  kx : List Int
  v : Value
  vx : List Int
  no : Bool
def Slot.cells (s : Slot) : List Value := [s.k, s.v, .bool s.no]
def cellsOf (S : List Slot) : List Value := S.flatMap Slot.cells
theorem cellsOf_cons (s : Slot) (S : List Slot) : cellsOf (s :: S) = s.k :: s.v :: .bool s.no :: cellsOf S := rfl
theorem cellsOf_append (A B : List Slot) : cellsOf (A ++ B) = cellsOf A ++ cellsOf B := by simp [cellsOf]
theorem cellsOf_length (S : List Slot) : (cellsOf S).length = S.length * 3 := by
  induction S with
  | nil => rfl
  | cons s S ih => rw [cellsOf_cons]; simp only [List.length_cons, ih]; omega
theorem cellsOf_at : ∀ (S : List Slot) (i : Nat) (s : Slot), S[i]? = some s → ∀ j, j < 3 → (cellsOf S)[i * 3 + j]? = s.cells[j]?
  | [], _, _, h, _, _ => by simp at h
  | t :: S, 0, s, h, j, hj => by
    simp only [List.getElem?_cons_zero, Option.some.injEq] at h
    subst h
    rw [cellsOf_cons, Nat.zero_mul, Nat.zero_add]
    match j, hj with
    | 0, _ => rfl
    | 1, _ => rfl
    | 2, _ => rfl
  | t :: S, i + 1, s, h, j, hj => by
    have := cellsOf_at S i s (by simpa using h) j hj
    rw [cellsOf_cons, show (i + 1) * 3 + j = (i * 3 + j) + 1 + 1 + 1 by omega, List.getElem?_cons_succ, List.getElem?_cons_succ, List.getElem?_cons_succ]
    exact this
theorem cellsOf_set : ∀ (S : List Slot) (i : Nat) (s s' : Slot), S[i]? = some s → ∀ j u, j < 3 → s'.cells = s.cells.set j u → (cellsOf S).set (i * 3 + j) u = cellsOf (S.set i s')
  | [], _, _, _, h, _, _, _, _ => by simp at h
  | t :: S, 0, s, s', h, j, u, hj, hc => by
    simp only [List.getElem?_cons_zero, Option.some.injEq] at h
    subst h
    rw [List.set_cons_zero, cellsOf_cons, cellsOf_cons, Nat.zero_mul, Nat.zero_add]
    have h0 := congrArg (fun x => x[0]?) hc
    have h1 := congrArg (fun x => x[1]?) hc
    have h2 := congrArg (fun x => x[2]?) hc
    match j, hj with
    | 0, _ => simp [Slot.cells] at h0 h1 h2 ⊢; simp [h0, h1, h2]
    | 1, _ => simp [Slot.cells] at h0 h1 h2 ⊢; simp [h0, h1, h2]
    | 2, _ => simp [Slot.cells] at h0 h1 h2 ⊢; simp [h0, h1, h2]
  | t :: S, i + 1, s, s', h, j, u, hj, hc => by
    have := cellsOf_set S i s s' (by simpa using h) j u hj hc
    rw [cellsOf_cons, show (i + 1) * 3 + j = (i * 3 + j) + 1 + 1 + 1 by omega, List.set_cons_succ, List.set_cons_succ, List.set_cons_succ, this]
    rfl
def kLab (z id : Nat) : Nat := z + 64 * (2 * id + 1)
def vLab (z id : Nat) : Nat := z + 64 * (2 * id + 2)
def Zn (z : Nat) : Nat → Prop := fun lab => lab % 64 = z
structure Kv (l : Nat → Nat) (w : World) (z a : Nat) (S : List Slot) : Prop where
  hz : z < 64
  arr : Cl l w z a 56 (cellsOf S).toArray
  slot : ∀ s ∈ S, Bf l w (kLab z s.id) s.k s.kx ∧ Bf l w (vLab z s.id) s.v s.vx
  ids : (S.map Slot.id).Nodup
section
variable {l l1 : Nat → Nat} {w w1 : World} {z a : Nat} {S : List Slot} {F : Nat → Prop}
theorem Kv.keep (h : Kv l w z a S) (s : Stp F l l1 w w1) (hF : ∀ lab, F lab → lab % 64 ≠ z) : Kv l1 w1 z a S := by
  have hz := h.hz
  have nz : ¬ F z := fun k => hF _ k (Nat.mod_eq_of_lt hz)
  refine ⟨hz, h.arr.keep s nz, fun t ht => ⟨(h.slot t ht).1.keep s (fun k => hF _ k ?_), (h.slot t ht).2.keep s (fun k => hF _ k ?_)⟩, h.ids⟩
  · unfold kLab; omega
  · unfold vLab; omega
theorem Kv.cell (h : Kv l w z a S) {i : Nat} {s : Slot} (hs : S[i]? = some s) : w.cell? ⟨a, i * 3, none⟩ = some s.k ∧ w.cell? ⟨a, i * 3 + 1, none⟩ = some s.v ∧ w.cell? ⟨a, i * 3 + 2, none⟩ = some (.bool s.no) := by
  have h0 := cellsOf_at S i s hs 0 (by omega)
  have h1 := cellsOf_at S i s hs 1 (by omega)
  have h2 := cellsOf_at S i s hs 2 (by omega)
  refine ⟨?_, ?_, ?_⟩
  · rw [h.arr.cell, List.getElem?_toArray]; simpa [Slot.cells] using h0
  · rw [h.arr.cell, List.getElem?_toArray]; simpa [Slot.cells] using h1
  · rw [h.arr.cell, List.getElem?_toArray]; simpa [Slot.cells] using h2
theorem Kv.free (h : Kv l w z a S) (o : Nat) : w.frozen? ⟨a, o, none⟩ = false := h.arr.free o
theorem Kv.row (h : Kv l w z a S) {i : Nat} {s : Slot} (hs : S[i]? = some s) : Bf l w (kLab z s.id) s.k s.kx ∧ Bf l w (vLab z s.id) s.v s.vx := h.slot s (List.mem_of_getElem? hs)
theorem mem_set_ids {S : List Slot} {i : Nat} {s s' t : Slot} (hn : (S.map Slot.id).Nodup) (hs : S[i]? = some s) (ht : t ∈ S.set i s') : t = s' ∨ (t ∈ S ∧ t.id ≠ s.id) := by
  obtain ⟨m, hm⟩ := List.mem_iff_getElem?.1 ht
  rw [List.getElem?_set] at hm
  by_cases e : i = m
  · subst e
    rw [if_pos rfl] at hm
    split at hm
    · left; exact (Option.some.inj hm).symm
    · cases hm
  · rw [if_neg e] at hm
    refine .inr ⟨List.mem_of_getElem? hm, fun hid => e ?_⟩
    have h1 : (S.map Slot.id)[i]? = some s.id := by rw [List.getElem?_map, hs]; rfl
    have h2 : (S.map Slot.id)[m]? = some s.id := by rw [List.getElem?_map, hm]; simp [hid]
    have hi : i < (S.map Slot.id).length := (List.getElem?_eq_some_iff.1 h1).1
    exact (List.getElem?_inj hi hn).1 (h1.trans h2.symm)
theorem ids_set {S : List Slot} {i : Nat} {s s' : Slot} (hs : S[i]? = some s) (hid : s'.id = s.id) : (S.set i s').map Slot.id = S.map Slot.id := by
  rw [List.map_set, hid]
  apply List.ext_getElem?
  intro m
  rw [List.getElem?_set]
  split
  · rename_i e
    subst e
    split
    · rw [List.getElem?_map, hs]; rfl
    · rename_i h
      rw [List.getElem?_eq_none (by omega)]
  · rfl
theorem Kv.put (h : Kv l w z a S) {i : Nat} {s : Slot} (s' : Slot) (hs : S[i]? = some s) (hid : s'.id = s.id) {j : Nat} (hj : j < 3) {u : Value} (hc : s'.cells = s.cells.set j u) (st : Stp F l l1 w w1) (hF : ∀ lab, F lab → lab = kLab z s.id ∨ lab = vLab z s.id)
    (hk : Bf l1 w1 (kLab z s.id) s'.k s'.kx) (hv : Bf l1 w1 (vLab z s.id) s'.v s'.vx) : Kv l1 (w1.setCell ⟨a, i * 3 + j, none⟩ u) z a (S.set i s') ∧ Stp (Zn z) l l1 w (w1.setCell ⟨a, i * 3 + j, none⟩ u) := by
  have hz := h.hz
  have kz : ∀ id, kLab z id ≠ z := fun id => by unfold kLab; omega
  have vz : ∀ id, vLab z id ≠ z := fun id => by unfold vLab; omega
  have h1 : Cl l1 w1 z a 56 (cellsOf S).toArray := h.arr.keep st (fun k => by
    rcases hF _ k with e | e
    · exact kz _ e.symm
    · exact vz _ e.symm)
  obtain ⟨h2, st2⟩ := h1.set (i * 3 + j) u
  have e : (cellsOf S).toArray.setIfInBounds (i * 3 + j) u = (cellsOf (S.set i s')).toArray := by
    rw [← cellsOf_set S i s s' hs j u hj hc, List.setIfInBounds_toArray]
  rw [e] at h2
  refine ⟨⟨hz, h2, fun t ht => ?_, by rw [ids_set hs hid]; exact h.ids⟩, ⟨st2.os.trans st.os, st2.tape.trans st.tape, st2.output.trans st.output, Nat.le_trans st.size st2.size, st.lab, fun b hb hf => ?_⟩⟩
  · rcases mem_set_ids h.ids hs ht with rfl | ⟨ht', hne⟩
    · rw [hid]
      exact ⟨hk.keep st2 (fun e => kz _ e), hv.keep st2 (fun e => vz _ e)⟩
    · have hb := h.slot t ht'
      refine ⟨(hb.1.keep st (fun k => ?_)).keep st2 (fun e => kz _ e), (hb.2.keep st (fun k => ?_)).keep st2 (fun e => vz _ e)⟩
      · rcases hF _ k with e | e
        · unfold kLab at e; omega
        · unfold kLab vLab at e; omega
      · rcases hF _ k with e | e
        · unfold kLab vLab at e; omega
        · unfold vLab at e; omega
  · refine (st2.block b (Nat.lt_of_lt_of_le hb st.size) (fun e => hf ?_)).trans (st.block b hb (fun k => hf ?_))
    · rw [st.lab b hb] at e
      unfold Zn
      rw [e]
      exact Nat.mod_eq_of_lt hz
    · unfold Zn
      rcases hF _ k with e | e
      · rw [e]; unfold kLab; omega
      · rw [e]; unfold vLab; omega
theorem Kv.storeK (h : Kv l w z a S) {i : Nat} {s : Slot} (hs : S[i]? = some s) {v1 : Value} {ys : List Int} (hb : Bf l1 w1 (kLab z s.id) v1 ys) (st : Stp (· = kLab z s.id) l l1 w w1) :
    Kv l1 (w1.setCell ⟨a, i * 3, none⟩ v1) z a (S.set i { s with k := v1, kx := ys }) ∧ Stp (Zn z) l l1 w (w1.setCell ⟨a, i * 3, none⟩ v1) :=
  h.put (j := 0) { s with k := v1, kx := ys } hs rfl (by omega) rfl st (fun _ e => .inl e) hb ((h.row hs).2.keep st (fun e => by unfold kLab vLab at e; omega))
theorem Kv.storeV (h : Kv l w z a S) {i : Nat} {s : Slot} (hs : S[i]? = some s) {v1 : Value} {ys : List Int} (hb : Bf l1 w1 (vLab z s.id) v1 ys) (st : Stp (· = vLab z s.id) l l1 w w1) :
    Kv l1 (w1.setCell ⟨a, i * 3 + 1, none⟩ v1) z a (S.set i { s with v := v1, vx := ys }) ∧ Stp (Zn z) l l1 w (w1.setCell ⟨a, i * 3 + 1, none⟩ v1) :=
  h.put (j := 1) { s with v := v1, vx := ys } hs rfl (by omega) rfl st (fun _ e => .inr e) ((h.row hs).1.keep st (fun e => by unfold kLab vLab at e; omega)) hb
theorem Kv.storeN (h : Kv l w z a S) {i : Nat} {s : Slot} (hs : S[i]? = some s) (b : Bool) :
    Kv l (w.setCell ⟨a, i * 3 + 2, none⟩ (.bool b)) z a (S.set i { s with no := b }) ∧ Stp (Zn z) l l w (w.setCell ⟨a, i * 3 + 2, none⟩ (.bool b)) :=
  h.put (j := 2) { s with no := b } hs rfl (by omega) rfl (Stp.refl (fun _ => False) l w) (fun _ e => e.elim) (h.row hs).1 (h.row hs).2
end
def KvS (l : Nat → Nat) (w : World) (z : Nat) (V : Value) (n : Nat) (S : List Slot) : Prop :=
  z < 64 ∧ (∀ s ∈ S.take n, s.v.ownBlock ≠ none) ∧ ((V = .slice none 0 0 ∧ S = [] ∧ n = 0) ∨ ∃ a, V = .slice (some ⟨a, 0, none⟩) n S.length ∧ n ≤ S.length ∧ S.length ≤ maxLen ∧ Kv l w z a S)
theorem KvS.keep {l l1 : Nat → Nat} {w w1 : World} {z n : Nat} {V : Value} {S : List Slot} {F : Nat → Prop} (h : KvS l w z V n S) (s : Stp F l l1 w w1) (hF : ∀ lab, F lab → lab % 64 ≠ z) : KvS l1 w1 z V n S := by
  obtain ⟨hz, hn, h | ⟨a, h1, h2, h3, h4⟩⟩ := h
  · exact ⟨hz, hn, .inl h⟩
  · exact ⟨hz, hn, .inr ⟨a, h1, h2, h3, h4.keep s hF⟩⟩
theorem KvS.nil (l : Nat → Nat) (w : World) (z : Nat) (hz : z < 64) : KvS l w z (.slice none 0 0) 0 [] := ⟨hz, by simp, .inl ⟨rfl, rfl, rfl⟩⟩
theorem KvS.le {l : Nat → Nat} {w : World} {z n : Nat} {V : Value} {S : List Slot} (h : KvS l w z V n S) : n ≤ S.length := by
  obtain ⟨_, _, ⟨_, rfl, rfl⟩ | ⟨a, _, h, _⟩⟩ := h
  · exact Nat.le_refl _
  · exact h
structure KVx where
  k : List Int
  v : List Int
  no : Bool
def kvs (S : List Slot) (n : Nat) : List KVx := (S.take n).map fun s => ⟨s.kx, s.vx, s.no⟩
theorem kvs_length {S : List Slot} {n : Nat} (h : n ≤ S.length) : (kvs S n).length = n := by unfold kvs; rw [List.length_map, List.length_take]; omega
theorem kvs_at {S : List Slot} {n i : Nat} {s : Slot} (h : S[i]? = some s) (hi : i < n) : (kvs S n)[i]? = some ⟨s.kx, s.vx, s.no⟩ := by
  unfold kvs
  rw [List.getElem?_map, List.getElem?_take, if_pos hi, h]; rfl
theorem kvs_set {S : List Slot} {n i : Nat} {s' : Slot} (hi : i < n) : kvs (S.set i s') n = (kvs S n).set i ⟨s'.kx, s'.vx, s'.no⟩ := by
  unfold kvs
  rw [List.take_set, List.map_set]
end Go.Proofs.Ytoimkmoalmmooaa.Own
namespace Go.Proofs.Ytoimkmoalmmooaa.Own
open Go.RowKit Go.Proofs.YtoimkmoalmmooaaW.PrintWords Go.Proofs.YtoimkmoalmmooaaW.PrintLast Go.Proofs.YtoimkmoalmmooaaW.PrintMore Go.Proofs.Ytoimkmoalmmooaa.Base Go.Proofs.Ytoimkmoalmmooaa.Gv
def zSlot (id : Nat) : Slot := ⟨id, .slice none 0 0, [], .slice none 0 0, [], false⟩
def zSlots (id : Nat) : Nat → List Slot
  | 0 => []
  | m + 1 => zSlot id :: zSlots (id + 1) m
theorem zSlots_length : ∀ (m id : Nat), (zSlots id m).length = m
  | 0, _ => rfl
  | m + 1, id => by simp [zSlots, zSlots_length m]
theorem zSlots_mem : ∀ (m id : Nat) (s : Slot), s ∈ zSlots id m → ∃ j, id ≤ j ∧ s = zSlot j
  | 0, _, _, h => by cases h
  | m + 1, id, s, h => by
    rcases List.mem_cons.1 h with rfl | h
    · exact ⟨id, Nat.le_refl _, rfl⟩
    · obtain ⟨j, h1, h2⟩ := zSlots_mem m (id + 1) s h
      exact ⟨j, by omega, h2⟩
theorem zSlots_ids : ∀ (m id : Nat), ((zSlots id m).map Slot.id).Nodup
  | 0, _ => by simp [zSlots]
  | m + 1, id => by
    rw [zSlots, List.map_cons, List.nodup_cons]
    refine ⟨fun h => ?_, zSlots_ids m (id + 1)⟩
    obtain ⟨s, hs, he⟩ := List.mem_map.1 h
    obtain ⟨j, hj, rfl⟩ := zSlots_mem m (id + 1) s hs
    have : j = id := he
    omega
def zarr : Array Value := #[.slice none 0 0, .slice none 0 0, .bool false]
theorem zc_at (m j : Nat) : (Builtin.zeroCells zarr m).toList[j]? = if j < m * 3 then some (zarr[j % 3]!) else none := by
  have hs : zarr.size = 3 := rfl
  unfold Builtin.zeroCells
  rw [hs, Array.getElem?_toList, Array.getElem?_map, Array.getElem?_range]
  split <;> rfl
theorem zero_cells : ∀ (m id : Nat), (Builtin.zeroCells zarr m).toList = cellsOf (zSlots id m)
  | 0, id => by simp [Builtin.zeroCells, zSlots, cellsOf]
  | m + 1, id => by
    have ih := zero_cells m (id + 1)
    rw [zSlots, cellsOf_cons, ← ih]
    apply List.ext_getElem?
    intro j
    rw [zc_at]
    match j with
    | 0 => rw [if_pos (by omega)]; rfl
    | 1 => rw [if_pos (by omega)]; rfl
    | 2 => rw [if_pos (by omega)]; rfl
    | j + 3 =>
      rw [List.getElem?_cons_succ, List.getElem?_cons_succ, List.getElem?_cons_succ, zc_at, show (j + 3) % 3 = j % 3 by omega]
      by_cases h : j < m * 3
      · rw [if_pos h, if_pos (by omega)]
      · rw [if_neg h, if_neg (by omega)]
def topId (S : List Slot) : Nat := S.foldr (fun s m => max (s.id + 1) m) 0
theorem topId_lt (S : List Slot) : ∀ s ∈ S, s.id < topId S := by
  induction S with
  | nil => intro s h; cases h
  | cons t S ih =>
    intro s h
    have e : topId (t :: S) = max (t.id + 1) (topId S) := rfl
    rcases List.mem_cons.1 h with rfl | h
    · omega
    · have := ih s h; omega
theorem nodup_more {S : List Slot} (h : (S.map Slot.id).Nodup) (m : Nat) (s : Slot) (hs : s.id = topId S) : ((S ++ s :: zSlots (topId S + 1) m).map Slot.id).Nodup := by
  rw [List.map_append, List.nodup_append]
  refine ⟨h, ?_, fun x hx y hy => ?_⟩
  · rw [List.map_cons, List.nodup_cons]
    refine ⟨fun h => ?_, zSlots_ids m _⟩
    obtain ⟨t, ht, he⟩ := List.mem_map.1 h
    obtain ⟨j, hj, rfl⟩ := zSlots_mem m _ t ht
    have : j = s.id := he
    omega
  · obtain ⟨t, ht, rfl⟩ := List.mem_map.1 hx
    have h1 := topId_lt S t ht
    obtain ⟨u, hu, rfl⟩ := List.mem_map.1 hy
    rcases List.mem_cons.1 hu with rfl | hu
    · omega
    · obtain ⟨j, hj, rfl⟩ := zSlots_mem m _ u hu
      show t.id ≠ j
      omega
theorem run_grow_kv {l : Nat → Nat} {w W : World} {z n g0 : Nat} {V : Value} {S : List Slot} (ty : TypeId) (ad : Addr) (c : Nat)
    (hinfo : (Try.prog.info? 56).map (fun i => (i.zero, i.size, i.bytes)) = some (some (.agg zarr), 3, 56))
    (h : KvS l w z V n S) (hfull : n = S.length) (hn : n ≤ 1099511627776) (hw : Below w.heap.size w W) (hg0 : w.heap.size ≤ g0) (hg : W.heap[g0]? = some (.cells #[] 5 (0, 0)))
    (c0 : W.cell? (ad.add 0) = some (.slice none 0 0)) (c1 : W.cell? (ad.add 1) = some (.slice (some ⟨g0, 0, none⟩) 0 0)) (c2 : W.cell? (ad.add 2) = some (.bool false)) :
    ∃ l1 w1 a S1 s, (Builtin.append_ #[53, 53] ty #[V, .slice (some ad) 1 c]).run Try.prog W = .ok (.slice (some ⟨a, 0, none⟩) (n + 1) S1.length) w1 ∧
      Kv l1 w1 z a S1 ∧ n < S1.length ∧ S1.length ≤ maxLen ∧ S1.take n = S ∧ S1[n]? = some s ∧ s.v.ownBlock ≠ none ∧ Stp (Zn z) l l1 w w1 := by
  obtain ⟨i0, hi, hz0, hz1, hz2⟩ := info_parts hinfo
  obtain ⟨hz, hnn, hV⟩ := h
  have hnews : ∀ j u, ([.slice none 0 0, .slice (some ⟨g0, 0, none⟩) 0 0, .bool false] : List Value)[j]? = some u → W.cell? (ad.add j) = some u := by
    intro j u hu
    match j with
    | 0 => simp at hu; rw [← hu]; exact c0
    | 1 => simp at hu; rw [← hu]; exact c1
    | 2 => simp at hu; rw [← hu]; exact c2
    | j + 3 => simp at hu
  -- what the new row holds, whatever was there
  have fin : ∀ old : Nat, (∀ s ∈ S, Bf l w (kLab z s.id) s.k s.kx ∧ Bf l w (vLab z s.id) s.v s.vx) → (S.map Slot.id).Nodup → ∃ l1 S1 s,
      Kv l1 (W.drew.alloc (.cells ((cellsOf S).toArray ++ #[.slice none 0 0, .slice (some ⟨g0, 0, none⟩) 0 0, .bool false] ++ Builtin.zeroCells zarr (grownCap W (n + 1) old 56 - (n + 1))) 56)) z W.heap.size S1 ∧ S1.length = grownCap W (n + 1) old 56 ∧ S1.take n = S ∧ S1[n]? = some s ∧ s.v.ownBlock ≠ none ∧
      Stp (Zn z) l l1 w (W.drew.alloc (.cells ((cellsOf S).toArray ++ #[.slice none 0 0, .slice (some ⟨g0, 0, none⟩) 0 0, .bool false] ++ Builtin.zeroCells zarr (grownCap W (n + 1) old 56 - (n + 1))) 56)) := by
    intro old hslots hids
    have hge := grownCap_ge W (n + 1) old 56
    obtain ⟨G, hG⟩ : ∃ G, grownCap W (n + 1) old 56 = G := ⟨_, rfl⟩
    rw [hG] at hge ⊢
    have hsz := hw.size
    let id := topId S
    let s0 : Slot := ⟨id, .slice none 0 0, [], .slice (some ⟨g0, 0, none⟩) 0 0, [], false⟩
    let l1 : Nat → Nat := fun b => if b < w.heap.size then l b else if b = g0 then vLab z id else z
    have hg0W : g0 < W.heap.size := (Array.getElem?_eq_some_iff.1 hg).1
    obtain ⟨W1, hW1⟩ : ∃ W1, W.drew.alloc (.cells ((cellsOf S).toArray ++ #[.slice none 0 0, .slice (some ⟨g0, 0, none⟩) 0 0, .bool false] ++ Builtin.zeroCells zarr (G - (n + 1))) 56) = W1 := ⟨_, rfl⟩
    have hcells : (cellsOf S).toArray ++ #[.slice none 0 0, .slice (some ⟨g0, 0, none⟩) 0 0, .bool false] ++ Builtin.zeroCells zarr (G - (n + 1)) = (cellsOf (S ++ s0 :: zSlots (id + 1) (G - (n + 1)))).toArray := by
      apply Array.ext'
      rw [cellsOf_append, cellsOf_cons, ← zero_cells]
      simp [s0]
    have hnew : W1.heap[W.heap.size]? = some (.cells (cellsOf (S ++ s0 :: zSlots (id + 1) (G - (n + 1)))).toArray 56 (0, 0)) := by
      rw [← hW1, hcells]; exact heap_alloc_new W.drew _
    have hold : ∀ b, b < W.heap.size → W1.heap[b]? = W.heap[b]? := fun b hb => by rw [← hW1]; exact heap_alloc_old W.drew _ hb
    have hsz1 : W1.heap.size = W.heap.size + 1 := by rw [← hW1]; simp
    have st : Stp (fun _ => False) l l1 w W1 := ⟨by rw [← hW1]; exact hw.os, by rw [← hW1]; exact hw.tape, by rw [← hW1]; exact hw.output, by omega, fun b hb => if_pos hb, fun b hb _ => (hold b (by omega)).trans (hw.block b hb)⟩
    rw [hW1]
    refine ⟨l1, S ++ s0 :: zSlots (id + 1) (G - (n + 1)), s0, ⟨hz, ⟨hnew, ?_⟩, fun s hs => ?_, nodup_more hids _ s0 rfl⟩, ?_, ?_, ?_, ?_, st.mono (fun _ k => k.elim)⟩
    · show (if W.heap.size < w.heap.size then _ else if W.heap.size = g0 then _ else z) = z
      rw [if_neg (by omega), if_neg (by omega)]
    · rcases List.mem_append.1 hs with h | h
      · exact ⟨(hslots s h).1.keep st (fun k => k), (hslots s h).2.keep st (fun k => k)⟩
      · rcases List.mem_cons.1 h with rfl | h
        · refine ⟨Bf.nil _ _ _, ⟨⟨rfl, .inr ⟨g0, 0, #[], rfl, Nat.zero_le _, (hold g0 hg0W).trans hg, Nat.le_refl _, Nat.zero_le _, rfl, rfl⟩⟩, fun b e => ?_⟩⟩
          obtain rfl : g0 = b := Option.some.inj e
          show (if g0 < w.heap.size then _ else if g0 = g0 then _ else z) = _
          rw [if_neg (by omega), if_pos rfl]
        · obtain ⟨j, _, rfl⟩ := zSlots_mem _ _ s h
          exact ⟨Bf.nil _ _ _, Bf.nil _ _ _⟩
    · rw [List.length_append, List.length_cons, zSlots_length]; omega
    · rw [hfull]; exact List.take_left
    · rw [hfull, List.getElem?_append_right (Nat.le_refl _), Nat.sub_self]; rfl
    · intro e; cases e
  rcases hV with ⟨rfl, rfl, rfl⟩ | ⟨a, rfl, hle, hmx, hkv⟩
  · have hr := run_append_nil (P := Try.prog) W 53 ty 56 i0 _ Try.underlying53 hi hz0 ad 1 c _ (by rw [hz1]; rfl) hnews (by omega) (by omega) (by rw [hz2]; omega)
    obtain ⟨l1, S1, s, h1, h2, h3, h4, h5, h6⟩ := fin 0 (by simp) (by simp)
    refine ⟨l1, _, _, S1, s, ?_, h1, by have := grownCap_ge W 1 0 56; rw [h2]; exact this, by rw [h2]; exact grownCap_le_maxLen W 1 0 _ (by decide), h3, h4, h5, h6⟩
    rw [h2]
    simpa [cellsOf, Value.cells] using hr
  · have hol := cellsOf_length S
    have hr := run_append_grow (P := Try.prog) W 53 ty 56 i0 _ Try.underlying53 hi hz0 ⟨a, 0, none⟩ n n (cellsOf S) (by rw [hol, hz1, hfull]) (fun j v hv => by
        rw [Addr.add_lit, Nat.zero_add]
        have h1 := hkv.arr
        have h2 := World.cell?_of_block (w := w) (w' := W) (a := ⟨a, j, none⟩) (hw.block a h1.lt)
        rw [h2, h1.cell, List.getElem?_toArray]; exact hv) ad 1 c _ (by rw [hz1]; rfl) hnews (by omega) (by omega) (growslice_fits (by omega) (by rw [hz2]; omega))
    obtain ⟨l1, S1, s, h1, h2, h3, h4, h5, h6⟩ := fin n hkv.slot hkv.ids
    have hgc := grownCap_ge W (n + 1) n 56
    refine ⟨l1, _, _, S1, s, ?_, h1, by omega, by rw [h2]; exact grownCap_le_maxLen W (n + 1) n _ (by unfold maxLen; omega), h3, h4, h5, h6⟩
    rw [h2, ← hfull]
    simpa [Value.cells] using hr
theorem Bf.nil_of {l : Nat → Nat} {w : World} {z : Nat} {v : Value} {xs : List Int} (h : Bf l w z v xs) (hv : v.ownBlock = none) : v = .slice none 0 0 ∧ xs = [] := by
  rcases h.1.2 with ⟨rfl, hn⟩ | ⟨g, cap, cur, rfl, _⟩
  · exact ⟨rfl, List.eq_nil_of_length_eq_zero hn⟩
  · cases hv
theorem Bf.some_of {l : Nat → Nat} {w : World} {z : Nat} {v : Value} {xs : List Int} (h : Bf l w z v xs) (hv : v.ownBlock ≠ none) : ∃ g c, v = .slice (some ⟨g, 0, none⟩) xs.length c := by
  rcases h.1.2 with ⟨rfl, hn⟩ | ⟨g, cap, cur, rfl, _⟩
  · exact absurd rfl hv
  · exact ⟨g, cap, rfl⟩
theorem get_some {S : List Slot} {n : Nat} (h : n < S.length) : ∃ s, S[n]? = some s := ⟨S[n], by rw [List.getElem?_eq_getElem h]⟩
set_option maxHeartbeats 1000000 in
set_option maxRecDepth 100000 in
theorem allocArg_room (l : Nat → Nat) (w : World) (z a n : Nat) (S : List Slot) (h : Kv l w z a S) (hlt : n < S.length) (hmx : S.length ≤ maxLen) (hn : n ≤ 1099511627776) :
    Calls Try.prog 102 #[.slice (some ⟨a, 0, none⟩) n S.length] w fun e w' => ∃ l1 S1 s, e = .returned (.tuple #[.slice (some ⟨a, 0, none⟩) (n + 1) S1.length, .pointer (some ⟨a, n * 3, none⟩)]) ∧
      Kv l1 w' z a S1 ∧ S1.length = S.length ∧ S1.take n = S.take n ∧ S1[n]? = some s ∧ s.v.ownBlock ≠ none ∧ Stp (Zn z) l l1 w w' := by
  obtain ⟨s, hs⟩ := get_some hlt
  obtain ⟨c0, c1, c2⟩ := h.cell hs
  have hb := (h.row hs).2
  have q1 : (n : Int) < (S.length : Int) := by omega
  have q2 : (n : Int) + 1 ≤ (S.length : Int) := by omega
  have q3 : n + 1 ≤ S.length := by omega
  have f1 := h.free (n * 3 + 1)
  by_cases hv : s.v.ownBlock = none
  · obtain ⟨hv0, hx0⟩ := hb.nil_of hv
    rw [hv0] at c1
    have heq := fun W : World => Lib.run_eql_slice_nil (P := Try.prog) W 54 5 none 0 0 0 0 Try.underlying54
    obtain ⟨W, hW⟩ : ∃ W, w.alloc (.cells #[] 5) = W := ⟨_, rfl⟩
    have hlz : vLab z s.id % 64 = z := by have := h.hz; unfold vLab; omega
    have st : Stp (· = vLab z s.id) l (ext l w.heap.size (vLab z s.id)) w W := by rw [← hW]; exact Stp.of_below ((Below.refl _ _).alloc (Nat.le_refl _) _) _ _ _
    have hbn : Bf (ext l w.heap.size (vLab z s.id)) W (vLab z s.id) (.slice (some ⟨w.heap.size, 0, none⟩) 0 0) [] := by
      refine ⟨⟨rfl, .inr ⟨w.heap.size, 0, #[], rfl, Nat.zero_le _, by rw [← hW]; exact heap_alloc_new w _, Nat.le_refl _, Nat.zero_le _, rfl, rfl⟩⟩, fun b e => ?_⟩
      obtain rfl : w.heap.size = b := Option.some.inj e
      exact ext_new l (Nat.le_refl _)
    have hfin := h.storeV hs hbn st
    have fz : W.frozen? ⟨a, n * 3 + 1, none⟩ = false := by
      have h1 := h.arr.keep st (fun e => by have := h.hz; unfold vLab at e; omega)
      exact h1.free _
    have cz : W.cell? ⟨a, n * 3 + 1, none⟩ = some (.slice none 0 0) := by
      have h1 := h.arr.keep st (fun e => by have := h.hz; unfold vLab at e; omega)
      rw [h1.cell, List.getElem?_toArray, cellsOf_at S n s hs 1 (by omega)]
      simp [Slot.cells, hv0]
    have hset : (S.set n { s with v := .slice (some ⟨w.heap.size, 0, none⟩) 0 0, vx := [] })[n]? = some { s with v := .slice (some ⟨w.heap.size, 0, none⟩) 0 0, vx := [] } := by rw [List.getElem?_set, if_pos rfl, if_pos hlt]
    have htk : (S.set n { s with v := .slice (some ⟨w.heap.size, 0, none⟩) 0 0, vx := [] }).take n = S.take n := by rw [List.take_set_of_le (Nat.le_refl _)]
    have hlen : (S.set n { s with v := .slice (some ⟨w.heap.size, 0, none⟩) 0 0, vx := [] }).length = S.length := List.length_set
    have HFIN := Lib.hid hfin
    have HSET := Lib.hid hset
    have HTK := Lib.hid htk
    have HLEN := Lib.hid hlen
    obtain ⟨N, hN⟩ : ∃ N, S.length = N := ⟨_, rfl⟩
    rw [hN] at q1 q2 q3 hmx hlt ⊢
    have HN := Lib.hid hN
    have HW := Lib.hid hW
    rw [← hW] at fz cz
    clear hN hs hb hv hv0 hx0 h st hbn hfin hset htk hlen hlz hW
    go_enter Try.func102, Try.ntmps102
    go_wp2
    go_ret2
    rw [HW.out]
    exact ⟨_, _, _, (by rw [HLEN.out, HN.out]; rfl), HFIN.out.1, (by rw [HLEN.out, HN.out]), HTK.out, HSET.out, (fun e => by cases e), HFIN.out.2⟩
  · obtain ⟨g, c, hv0⟩ := hb.some_of hv
    rw [hv0] at c1
    have H := Lib.hid h
    have HS := Lib.hid hs
    have HV := Lib.hid hv
    obtain ⟨M, hM⟩ : ∃ M, s.vx.length = M := ⟨_, rfl⟩
    have heq := fun W : World => Lib.run_eql_slice_nil (P := Try.prog) W 54 5 (some ⟨g, 0, none⟩) M c 0 0 Try.underlying54
    obtain ⟨N, hN⟩ : ∃ N, S.length = N := ⟨_, rfl⟩
    rw [hN] at q1 q2 q3 hmx hlt ⊢
    rw [hM] at c1
    have HN := Lib.hid hN
    clear hN hM hs hb hv hv0 h
    go_enter Try.func102, Try.ntmps102
    go_wp2
    go_ret2
    exact ⟨l, S, s, (by rw [HN.out]; rfl), H.out, HN.out, rfl, HS.out, HV.out, Stp.refl _ _ _⟩
set_option maxHeartbeats 1000000 in
set_option maxRecDepth 100000 in
theorem allocArg_full (l : Nat → Nat) (w : World) (z n : Nat) (V : Value) (S : List Slot) (h : KvS l w z V n S) (hfull : n = S.length) (hn : n ≤ 1099511627776) :
    Calls Try.prog 102 #[V] w fun e w' => ∃ l1 a S1 s, e = .returned (.tuple #[.slice (some ⟨a, 0, none⟩) (n + 1) S1.length, .pointer (some ⟨a, n * 3, none⟩)]) ∧
      Kv l1 w' z a S1 ∧ n < S1.length ∧ S1.length ≤ maxLen ∧ S1.take n = S ∧ S1[n]? = some s ∧ s.v.ownBlock ≠ none ∧ Stp (Zn z) l l1 w w' := by
  have hinfo : (Try.prog.info? 56).map (fun i => (i.zero, i.size, i.bytes)) = some (some (.agg zarr), 3, 56) := by kernel_rfl
  obtain ⟨W1, hW1⟩ : ∃ W, w.alloc (.cells #[] 5) = W := ⟨_, rfl⟩
  obtain ⟨W2, hW2⟩ : ∃ W, W1.alloc (.cells #[.slice none 0 0, .slice (some ⟨w.heap.size, 0, none⟩) 0 0, .bool false] 56) = W := ⟨_, rfl⟩
  have hb1 : Below w.heap.size w W1 := by rw [← hW1]; exact (Below.refl _ _).alloc (Nat.le_refl _) _
  have hs1 : W1.heap.size = w.heap.size + 1 := by rw [← hW1]; simp
  have hb2 : Below w.heap.size w W2 := by rw [← hW2]; exact hb1.alloc (by omega) _
  have hg : W2.heap[w.heap.size]? = some (.cells #[] 5 (0, 0)) := by rw [← hW2]; exact blk_alloc (by rw [← hW1]; exact heap_alloc_new w _) _
  have hn2 : W2.heap[w.heap.size + 1]? = some (.cells #[.slice none 0 0, .slice (some ⟨w.heap.size, 0, none⟩) 0 0, .bool false] 56 (0, 0)) := by rw [← hW2, ← hs1]; exact heap_alloc_new W1 _
  obtain ⟨l1, w1, a, S1, s, hr, hkv, hlt, hmx, htk, hs, hnn, hst⟩ := run_grow_kv (W := W2) 53 ⟨w.heap.size + 1, 0, none⟩ 1 hinfo h hfull hn hb2 (Nat.le_refl _) hg (by rw [Addr.add_lit, cell_of_row W2 _ _ _ _ (0, 0) hn2]; rfl) (by rw [Addr.add_lit, cell_of_row W2 _ _ _ _ (0, 0) hn2]; rfl) (by rw [Addr.add_lit, cell_of_row W2 _ _ _ _ (0, 0) hn2]; rfl)
  have HR := Lib.hid hr
  have HK := Lib.hid hkv
  have HS := Lib.hid hs
  have HT := Lib.hid hst
  have HTK := Lib.hid htk
  have hcap : ∃ A, V = .slice A n n := by
    obtain ⟨_, _, ⟨rfl, _, rfl⟩ | ⟨a0, rfl, _⟩⟩ := h
    · exact ⟨none, rfl⟩
    · exact ⟨some ⟨a0, 0, none⟩, by rw [← hfull]⟩
  obtain ⟨A, rfl⟩ := hcap
  obtain ⟨N, hN⟩ : ∃ N, S1.length = N := ⟨_, rfl⟩
  rw [hN] at hlt hmx
  have HN := Lib.hid hN
  have q1 : ¬ ((n : Int) < (n : Int)) := by omega
  have HW1 := Lib.hid hW1
  have HW2 := Lib.hid hW2
  have HHS := Lib.hid hs1
  have q2 : n < N := hlt
  clear hN hr hkv hs hst htk hg hn2 hb1 hb2 hs1 h hfull hinfo hW1 hW2
  go_enter Try.func102, Try.ntmps102
  go_wp2_with (at_builtin; refine app_run rfl (.tmp 30) (.tmp 33) 53 53 rfl _ _ _ rfl rfl (by rw [HW1.out, HW2.out]; exact HR.out) ?_)
  repeat (go_quiet (fail); try go_wp2)
  go_ret2
  have hd := fun m => Stp.of_below_same (pw_below_drewN (Below.refl w1.heap.size w1) m) (Zn z) l1
  exact ⟨l1, a, S1, s, rfl, HK.out.keep (F := fun _ => False) (Stp.of_below_same (pw_below_drewN (Below.refl w1.heap.size w1) _) _ _) (fun _ k => k.elim), by rw [HN.out]; exact q2, by rw [HN.out]; exact hmx, HTK.out, HS.out, hnn, HT.out.trans (hd _)⟩
theorem allocArg_calls (l : Nat → Nat) (w : World) (z n : Nat) (V : Value) (S : List Slot) (h : KvS l w z V n S) (hn : n ≤ 1099511627776) :
    Calls Try.prog 102 #[V] w fun e w' => ∃ l1 a S1 s, e = .returned (.tuple #[.slice (some ⟨a, 0, none⟩) (n + 1) S1.length, .pointer (some ⟨a, n * 3, none⟩)]) ∧
      Kv l1 w' z a S1 ∧ n < S1.length ∧ S1.length ≤ maxLen ∧ S1.take n = S.take n ∧ S1[n]? = some s ∧ s.v.ownBlock ≠ none ∧ Stp (Zn z) l l1 w w' := by
  have h0 := h
  obtain ⟨hz, hnn, h1⟩ := h
  by_cases hfull : n = S.length
  · refine (allocArg_full l w z n V S h0 hfull hn).mono ?_
    rintro e w' ⟨l1, a, S1, s, q1, q2, q3, q4, q5, q6⟩
    exact ⟨l1, a, S1, s, q1, q2, q3, q4, by rw [q5, hfull, List.take_length], q6⟩
  · obtain ⟨_, rfl, rfl⟩ | ⟨a, rfl, hle, hmx, hkv⟩ := h1
    · exact absurd rfl hfull
    · refine (allocArg_room l w z a n S hkv (by omega) hmx hn).mono ?_
      rintro e w' ⟨l1, S1, s, q1, q2, q3, q4, q5, q6, q7⟩
      exact ⟨l1, a, S1, s, q1, q2, by omega, by omega, q4, q5, q6, q7⟩
def Src (F : Nat → Prop) (l : Nat → Nat) (w : World) (A : Option Addr) (m : Nat) (xs : List Int) : Prop := ∀ l1 w1, Stp F l l1 w w1 → ReadsInt w1 .u8 A m xs
theorem Src.now {F : Nat → Prop} {l : Nat → Nat} {w : World} {A : Option Addr} {m : Nat} {xs : List Int} (h : Src F l w A m xs) : ReadsInt w .u8 A m xs := h l w (Stp.refl _ _ _)
theorem Src.step {F : Nat → Prop} {l l1 : Nat → Nat} {w w1 : World} {A : Option Addr} {m : Nat} {xs : List Int} (h : Src F l w A m xs) (s : Stp F l l1 w w1) : Src F l1 w1 A m xs := fun l2 w2 k => h l2 w2 (s.trans k)
theorem Src.of_bf {F : Nat → Prop} {l : Nat → Nat} {w : World} {z : Nat} {A : Option Addr} {m c : Nat} {xs : List Int} (h : Bf l w z (.slice A m c) xs) (hz : ¬ F z) : m = xs.length ∧ Src F l w A xs.length xs :=
  ⟨h.cut0.1, fun l1 w1 s => (h.keep s hz).reads⟩
theorem Src.of_read {F : Nat → Prop} {l : Nat → Nat} {w : World} {A : Option Addr} {m : Nat} {xs : List Int} (h : ReadsInt w .u8 A m xs) (ha : ∀ a, A = some a → a.block < w.heap.size ∧ ¬ F (l a.block)) : Src F l w A m xs := fun l1 w1 s =>
  ⟨h.1, h.2.1, fun h0 => by
    obtain ⟨a, e, hc⟩ := h.2.2 h0
    obtain ⟨h1, h2⟩ := ha a e
    refine ⟨a, e, fun j hj => ?_⟩
    have hb := s.block a.block h1 h2
    have : w1.cell? (a.add j) = w.cell? (a.add j) := World.cell?_of_block (by rw [show (a.add j).block = a.block by unfold Addr.add; split <;> rfl]; exact hb)
    rw [this]
    exact hc j hj⟩
theorem cutz (A : Option Addr) (n c : Nat) (W : World) : (Instr.slice 54 (.slice A n c) none (some (.int .i64 0)) none).run Try.prog W = .ok (.slice A 0 c) W := by
  have hel : Try.prog.elem 54 = 5 := by simp [Program.elem, Try.underlying54]
  have hu : Try.prog.underlying 54 = some (.slice (Try.prog.elem 54)) := by rw [hel]; exact Try.underlying54
  have ha : (A.map fun x => x.add 0) = A := by cases A <;> simp [Addr.add]
  have := run_slice_h W 54 A n c hu .i64 0 (by omega) (by omega)
  simpa [hel, ha, sliced] using this
theorem info8 : (Try.prog.info? 5).map (fun i => (i.zero, i.size, i.bytes)) = some (some (.int .u8 0), 1, 1) := by kernel_rfl
theorem Kv.at (l : Nat → Nat) {w : World} {z a : Nat} {S : List Slot} (h : Kv l w z a S) {i : Nat} {s : Slot} (hs : S[i]? = some s) :
    (∃ A n c, s.k = .slice A n c ∧ w.cell? ⟨a, i * 3, none⟩ = some (.slice A n c) ∧ Bf l w (kLab z s.id) (.slice A 0 c) []) ∧ (∃ A n c, s.v = .slice A n c ∧ w.cell? ⟨a, i * 3 + 1, none⟩ = some (.slice A n c) ∧ Bf l w (vLab z s.id) (.slice A 0 c) []) ∧ w.cell? ⟨a, i * 3 + 2, none⟩ = some (.bool s.no) ∧
    w.frozen? ⟨a, i * 3, none⟩ = false ∧ w.frozen? ⟨a, i * 3 + 1, none⟩ = false ∧ w.frozen? ⟨a, i * 3 + 2, none⟩ = false := by
  obtain ⟨c0, c1, c2⟩ := h.cell hs
  obtain ⟨hk, hv⟩ := h.row hs
  obtain ⟨A, c, e, _, hb⟩ := hk.cut 0 (Nat.zero_le _)
  obtain ⟨A2, c', e', _, hb'⟩ := hv.cut 0 (Nat.zero_le _)
  exact ⟨⟨A, _, c, e, by rw [c0, e], by simpa using hb⟩, ⟨A2, _, c', e', by rw [c1, e'], by simpa using hb'⟩, c2, h.free _, h.free _, h.free _⟩
theorem Kv.cells_keep {l l1 : Nat → Nat} {w w1 : World} {z a : Nat} {S : List Slot} (h : Kv l w z a S) {lab : Nat} (st : Stp (· = lab) l l1 w w1) (hl : lab ≠ z) (o : Nat) : w1.cell? ⟨a, o, none⟩ = w.cell? ⟨a, o, none⟩ ∧ w1.frozen? ⟨a, o, none⟩ = false := by
  have h1 := h.arr.keep st (fun e => hl e.symm)
  exact ⟨by rw [h1.cell, h.arr.cell], h1.free o⟩
theorem kLab_ne {z id : Nat} (hz : z < 64) : kLab z id ≠ z := by unfold kLab; omega
theorem vLab_ne {z id : Nat} (hz : z < 64) : vLab z id ≠ z := by unfold vLab; omega
theorem kLab_zn {z id : Nat} (hz : z < 64) : kLab z id % 64 = z := by unfold kLab; omega
theorem vLab_zn {z id : Nat} (hz : z < 64) : vLab z id % 64 = z := by unfold vLab; omega
theorem Stp.zone {l l1 : Nat → Nat} {w w1 : World} {z lab : Nat} (h : Stp (· = lab) l l1 w w1) (hl : lab % 64 = z) : Stp (Zn z) l l1 w w1 := h.mono (fun x e => by subst e; exact hl)
theorem take_set_snoc {S0 S1 : List Slot} {n : Nat} (ht : S1.take n = S0.take n) (hlt : n < S1.length) (s : Slot) : kvs (S1.set n s) (n + 1) = kvs S0 n ++ [⟨s.kx, s.vx, s.no⟩] := by
  unfold kvs
  have e : (S1.set n s).take (n + 1) = S0.take n ++ [s] := by
    rw [List.take_add_one, List.take_set_of_le (Nat.le_refl _), ht, List.getElem?_set, if_pos rfl, if_pos hlt]
    rfl
  rw [e, List.map_append]
  rfl
theorem nn_set {S0 S1 : List Slot} {n : Nat} (h0 : ∀ s ∈ S0.take n, s.v.ownBlock ≠ none) (ht : S1.take n = S0.take n) (hlt : n < S1.length) (s : Slot) (hs : s.v.ownBlock ≠ none) : ∀ t ∈ (S1.set n s).take (n + 1), t.v.ownBlock ≠ none := by
  have e : (S1.set n s).take (n + 1) = S0.take n ++ [s] := by
    rw [List.take_add_one, List.take_set_of_le (Nat.le_refl _), ht, List.getElem?_set, if_pos rfl, if_pos hlt]
    rfl
  rw [e]
  intro t h
  rcases List.mem_append.1 h with h | h
  · exact h0 t h
  · rw [List.mem_singleton.1 h]; exact hs
theorem set_set_at {S : List Slot} {n : Nat} (s t : Slot) : (S.set n s).set n t = S.set n t := List.set_set ..
theorem get_set {S : List Slot} {n : Nat} {s0 s : Slot} (h : S[n]? = some s0) : (S.set n s)[n]? = some s := by
  have : n < S.length := (List.getElem?_eq_some_iff.1 h).1
  rw [List.getElem?_set, if_pos rfl, if_pos this]
open Go.Proofs.Ytoimkmoalmmooaa.QA
def eqB (xs ys : List Int) : Bool := (strOfNums xs).toList == (strOfNums ys).toList
theorem equal_calls (W : World) (A B : Option Addr) (c d : Nat) (xs ys : List Int) (hx : ReadsInt W .u8 A xs.length xs) (hc : xs.length ≤ c) (hy : ReadsInt W .u8 B ys.length ys) (hd : ys.length ≤ d) :
    Calls Try.prog 99 #[.slice A xs.length c, .slice B ys.length d] W fun e w' => e = .returned (.bool (eqB xs ys)) ∧ ∃ m, w' = W.drewN m := by
  refine (bytes_Equal.calls A c xs B d ys (eqB xs ys) W (Kd.C_of_reads (d := (0 : Int)) (h1 := fun _ => rfl) hx) hc (Kd.C_of_reads (d := (0 : Int)) (h1 := fun _ => rfl) hy) hd rfl).mono ?_
  rintro e w' ⟨rfl, ⟨m, rfl⟩⟩
  exact ⟨rfl, m, rfl⟩
theorem drew_stp (F : Nat → Prop) (l : Nat → Nat) (w : World) (m : Nat) : Stp F l l w (w.drewN m) := Stp.of_below_same (pw_below_drewN (Below.refl _ _) m) F l
theorem Kv.drewN {l : Nat → Nat} {w : World} {z a : Nat} {S : List Slot} (h : Kv l w z a S) (m : Nat) : Kv l (w.drewN m) z a S := h.keep (drew_stp (fun _ => False) l w m) (fun _ k => k.elim)
theorem Bf.drewN {l : Nat → Nat} {w : World} {z : Nat} {v : Value} {xs : List Int} (h : Bf l w z v xs) (m : Nat) : Bf l (w.drewN m) z v xs := h.keep (drew_stp (fun _ => False) l w m) (fun k => k)
theorem Src.drewN {F : Nat → Prop} {l : Nat → Nat} {w : World} {A : Option Addr} {m : Nat} {xs : List Int} (h : Src F l w A m xs) (k : Nat) : Src F l (w.drewN k) A m xs := h.step (drew_stp F l w k)
theorem Kv.look {l : Nat → Nat} {w : World} {z a : Nat} {S : List Slot} (h : Kv l w z a S) {i : Nat} {s : Slot} (hs : S[i]? = some s) :
    (∃ A c, s.k = .slice A s.kx.length c ∧ w.cell? ⟨a, i * 3, none⟩ = some (.slice A s.kx.length c) ∧ s.kx.length ≤ c ∧ ReadsInt w .u8 A s.kx.length s.kx) ∧
    (∃ A c, s.v = .slice A s.vx.length c ∧ w.cell? ⟨a, i * 3 + 1, none⟩ = some (.slice A s.vx.length c) ∧ s.vx.length ≤ c ∧ ReadsInt w .u8 A s.vx.length s.vx) ∧ w.cell? ⟨a, i * 3 + 2, none⟩ = some (.bool s.no) := by
  obtain ⟨c0, c1, c2⟩ := h.cell hs
  obtain ⟨hk, hv⟩ := h.row hs
  obtain ⟨A, c, e, hc⟩ := hk.slice
  obtain ⟨B, d, e', hd⟩ := hv.slice
  have r1 := hk
  have r2 := hv
  rw [e] at r1
  rw [e'] at r2
  exact ⟨⟨A, c, e, by rw [c0, e], hc, r1.reads⟩, ⟨B, d, e', by rw [c1, e'], hd, r2.reads⟩, c2⟩
def setKV (k v : List Int) : List KVx → List KVx
  | [] => [⟨k, v, false⟩]
  | x :: t => if eqB k x.k = true then ⟨x.k, v, false⟩ :: t else x :: setKV k v t
theorem setKV_hit (k v : List Int) : ∀ (l : List KVx) (i : Nat) (x : KVx), l[i]? = some x → eqB k x.k = true → (∀ (j : Nat) (y : KVx), j < i → l[j]? = some y → eqB k y.k = false) → setKV k v l = l.set i ⟨x.k, v, false⟩
  | [], i, x, h, _, _ => by simp at h
  | y :: t, 0, x, h, he, _ => by
    simp only [List.getElem?_cons_zero, Option.some.injEq] at h
    subst h
    simp [setKV, he]
  | y :: t, i + 1, x, h, he, hn => by
    have h0 := hn 0 y (by omega) rfl
    have ih := setKV_hit k v t i x (by simpa using h) he (fun j z hj hz => hn (j + 1) z (by omega) (by simpa using hz))
    simp [setKV, h0, ih]
theorem setKV_miss (k v : List Int) : ∀ (l : List KVx), (∀ (j : Nat) (y : KVx), l[j]? = some y → eqB k y.k = false) → setKV k v l = l ++ [⟨k, v, false⟩]
  | [], _ => rfl
  | y :: t, hn => by
    have h0 := hn 0 y rfl
    have ih := setKV_miss k v t (fun j z hz => hn (j + 1) z (by simpa using hz))
    simp [setKV, h0, ih]
def updKV (k v : List Int) : List KVx → List KVx
  | [] => []
  | x :: t => if x.no = true ∧ eqB k x.k = true then ⟨x.k, v, false⟩ :: t else x :: updKV k v t
theorem updKV_hit (k v : List Int) : ∀ (l : List KVx) (i : Nat) (x : KVx), l[i]? = some x → (x.no = true ∧ eqB k x.k = true) → (∀ (j : Nat) (y : KVx), j < i → l[j]? = some y → ¬ (y.no = true ∧ eqB k y.k = true)) → updKV k v l = l.set i ⟨x.k, v, false⟩
  | [], i, x, h, _, _ => by simp at h
  | y :: t, 0, x, h, he, _ => by
    simp only [List.getElem?_cons_zero, Option.some.injEq] at h
    subst h
    simp [updKV, he]
  | y :: t, i + 1, x, h, he, hn => by
    have h0 := hn 0 y (by omega) rfl
    have ih := updKV_hit k v t i x (by simpa using h) he (fun j z hj hz => hn (j + 1) z (by omega) (by simpa using hz))
    rw [updKV, if_neg h0, ih]
    rfl
theorem updKV_miss (k v : List Int) : ∀ (l : List KVx), (∀ (j : Nat) (y : KVx), l[j]? = some y → ¬ (y.no = true ∧ eqB k y.k = true)) → updKV k v l = l
  | [], _ => rfl
  | y :: t, hn => by
    have h0 := hn 0 y rfl
    have ih := updKV_miss k v t (fun j z hz => hn (j + 1) z (by simpa using hz))
    rw [updKV, if_neg h0, ih]
def getKV (k : List Int) : List KVx → Option (List Int)
  | [] => none
  | x :: t => if eqB x.k k = true then some x.v else getKV k t
theorem getKV_hit (k : List Int) : ∀ (l : List KVx) (i : Nat) (x : KVx), l[i]? = some x → eqB x.k k = true → (∀ (j : Nat) (y : KVx), j < i → l[j]? = some y → eqB y.k k = false) → getKV k l = some x.v
  | [], i, x, h, _, _ => by simp at h
  | y :: t, 0, x, h, he, _ => by
    simp only [List.getElem?_cons_zero, Option.some.injEq] at h
    subst h
    simp [getKV, he]
  | y :: t, i + 1, x, h, he, hn => by
    have h0 := hn 0 y (by omega) rfl
    have ih := getKV_hit k t i x (by simpa using h) he (fun j z hj hz => hn (j + 1) z (by omega) (by simpa using hz))
    simp [getKV, h0, ih]
theorem getKV_miss (k : List Int) : ∀ (l : List KVx), (∀ (j : Nat) (y : KVx), l[j]? = some y → eqB y.k k = false) → getKV k l = none
  | [], _ => rfl
  | y :: t, hn => by
    have h0 := hn 0 y rfl
    have ih := getKV_miss k t (fun j z hz => hn (j + 1) z (by simpa using hz))
    simp [getKV, h0, ih]
theorem nn_set_at {S : List Slot} {n i : Nat} (h0 : ∀ s ∈ S.take n, s.v.ownBlock ≠ none) (s : Slot) (hs : s.v.ownBlock ≠ none) : ∀ t ∈ (S.set i s).take n, t.v.ownBlock ≠ none := by
  intro t ht
  rw [List.take_set] at ht
  rcases List.mem_or_eq_of_mem_set ht with h | rfl
  · exact h0 t h
  · exact hs
theorem nn_at {S : List Slot} {n i : Nat} {s : Slot} (h0 : ∀ s ∈ S.take n, s.v.ownBlock ≠ none) (hs : S[i]? = some s) (hi : i < n) : s.v.ownBlock ≠ none :=
  h0 s (List.mem_of_getElem? (i := i) (by rw [List.getElem?_take, if_pos hi]; exact hs))
theorem kvs_get {S : List Slot} {n j : Nat} {y : KVx} (h : (kvs S n)[j]? = some y) : ∃ s, S[j]? = some s ∧ j < n ∧ y = ⟨s.kx, s.vx, s.no⟩ := by
  unfold kvs at h
  rw [List.getElem?_map, List.getElem?_take] at h
  split at h
  · rename_i hj
    cases hs : S[j]? with
    | none => rw [hs] at h; cases h
    | some s => rw [hs] at h; exact ⟨s, rfl, hj, (Option.some.inj h).symm⟩
  · cases h
end Go.Proofs.Ytoimkmoalmmooaa.Own
namespace Go.Proofs.Ytoimkmoalmmooaa.Given
open Go.RowKit Go.Proofs.YtoimkmoalmmooaaW.PrintWords Go.Proofs.YtoimkmoalmmooaaW.PrintLast Go.Proofs.YtoimkmoalmmooaaW.PrintMore
set_option maxHeartbeats 1000000 in
theorem errNew_calls (s : ByteArray) (w : World) : Calls Try.prog 69 #[.string s] w fun e w' => Below w.heap.size w w' ∧ ∃ u x, e = .returned (.iface u x) := by
  go_enter Try.func69, Try.ntmps69
  go_wp2
  go_ret
  exact ⟨(Below.refl _ _).alloc (Nat.le_refl _) _, _, _, rfl⟩
end Go.Proofs.Ytoimkmoalmmooaa.Given
namespace Go.Proofs.Ytoimkmoalmmooaa.QA
open Go.Proofs.Ytoimkmoalmmooaa.Given
open Go.Proofs.Ytoimkmoalmmooaa.PrX
open Go.RowKit Go.Proofs.YtoimkmoalmmooaaW.PrintWords Go.Proofs.YtoimkmoalmmooaaW.PrintLast Go.Proofs.YtoimkmoalmmooaaW.PrintMore
def laws_forbidden.f (a0 : ByteArray) : Option (Bool) := (laws_low.f a0).bind fun t267 => (if t267.toList = ([99, 111, 110, 116, 101, 110, 116, 45, 108, 101, 110, 103, 116, 104] : List UInt8) then (some true) else (if t267.toList = ([116, 114, 97, 110, 115, 102, 101, 114, 45, 101, 110, 99, 111, 100, 105, 110, 103] : List UInt8) then (some true) else (if t267.toList = ([104, 111, 115, 116] : List UInt8) then (some true) else (if t267.toList = ([116, 114, 97, 105, 108, 101, 114] : List UInt8) then (some true) else (if t267.toList = ([99, 111, 110, 116, 101, 110, 116, 45, 116, 121, 112, 101] : List UInt8) then (some true) else (if t267.toList = ([99, 111, 110, 116, 101, 110, 116, 45, 101, 110, 99, 111, 100, 105, 110, 103] : List UInt8) then (some true) else (if t267.toList = ([99, 111, 110, 116, 101, 110, 116, 45, 114, 97, 110, 103, 101] : List UInt8) then (some true) else (if t267.toList = ([97, 117, 116, 104, 111, 114, 105, 122, 97, 116, 105, 111, 110] : List UInt8) then (some true) else (some false)))))))))
end Go.Proofs.Ytoimkmoalmmooaa.QA
