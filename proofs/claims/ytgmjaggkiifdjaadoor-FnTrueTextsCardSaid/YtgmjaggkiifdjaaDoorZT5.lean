/- Texts of this claim, one behind the other (merged by wip/prune.py of this repo, without what the proof does not use): GvRow, GLow, LHelp. -/
import Derived.Test.YtgmjaggkiifdjaaDoorZT1
import Derived.Test.YtgmjaggkiifdjaaDoorZT2
import Derived.Below
import Derived.BigQuiet
import Derived.Deep.LoopGhost
import Derived.Deep.QuietTactic
import Derived.Deep.RegionHeld3
import Derived.KernelRfl
import Derived.Laws.BitsLemmas
import Derived.Laws.BytesArg
import Derived.Laws.RangeAny
import Derived.Laws.RangeString
import Derived.Laws.Slices
import Derived.Lib.ConvBytes
import Derived.Lib.Hide
import Derived.Lib.TrimU
import Derived.OrdersHeld
import Derived.Outline
import Derived.OwnWalk
import Derived.RowKit
import Derived.RowKit3
import Derived.Tactics
import Derived.Test.YtgmjaggkiifdjaaDoorProg
import Derived.WalkKit
import Derived.WalkLawsBesides
import Derived.WalkSpells
import Derived.WideLaws
set_option linter.unusedVariables false
set_option linter.unusedSimpArgs false
namespace Go.Proofs.YtgmjaggkiifdjaaDoor.Gv
open Go.RowKit Go.Proofs.YtgmjaggkiifdjaaDoorW.PrintWords Go.Proofs.YtgmjaggkiifdjaaDoor.Base
def Br (w : World) (e : TypeId) (g : Nat) (xs : List Int) : Prop :=
  ∃ cur fr, w.heap[g]? = some (.cells cur e fr) ∧ (∀ j, j < xs.length → cur[j]? = some (.int .u8 (xs.getD j 0))) ∧ ∀ j, j < xs.length → ¬ (fr.1 ≤ j ∧ j < fr.2)
theorem Br.cell {w : World} {e : TypeId} {g : Nat} {xs : List Int} (h : Br w e g xs) (j : Nat) (hj : j < xs.length) : w.cell? ⟨g, j, none⟩ = some (.int .u8 (xs.getD j 0)) := by
  obtain ⟨cur, fr, hb, hc, _⟩ := h
  simp only [World.cell?, hb]
  exact hc j hj
theorem Br.free {w : World} {e : TypeId} {g : Nat} {xs : List Int} (h : Br w e g xs) (j : Nat) (hj : j < xs.length) : w.frozen? ⟨g, j, none⟩ = false := by
  obtain ⟨cur, fr, hb, _, hf⟩ := h
  have := hf j hj
  obtain ⟨lo, hi⟩ := fr
  simp only [World.frozen?, hb]
  simp only [Bool.and_eq_false_iff, decide_eq_false_iff_not]
  simp only at this
  omega
theorem Br.set {w : World} {e : TypeId} {g : Nat} {xs : List Int} (h : Br w e g xs) (j : Nat) (v : Int) : Br (w.setCell ⟨g, j, none⟩ (.int .u8 v)) e g (xs.set j v) := by
  obtain ⟨cur, fr, hb, hc, hf⟩ := h
  refine ⟨cur.setIfInBounds j (.int .u8 v), fr, ?_, fun i hi => ?_, fun i hi => hf i (by simpa using hi)⟩
  · simp only [World.setCell, Array.getElem?_modify, if_true, hb, Option.map_some, Option.isSome_none, Bool.false_eq_true, if_false]
  · have hi' : i < xs.length := by simpa using hi
    have h1 := hc i hi'
    have hlt : i < cur.size := (Array.getElem?_eq_some_iff.1 h1).1
    rw [Array.getElem?_setIfInBounds, List.getD_eq_getElem?_getD, List.getElem?_set]
    by_cases e1 : j = i
    · subst e1; simp [hlt, hi']
    · rw [if_neg e1, if_neg e1, h1, List.getD_eq_getElem?_getD]
theorem Br.conv (w : World) (e : TypeId) (s : ByteArray) : Br (Lib.bytesWorld w e s) e w.heap.size (ns s) := by
  refine ⟨_, _, Lib.bytesWorld_at_new w e s, fun j hj => ?_, fun j hj => ?_⟩
  · rw [ns_length] at hj
    have h := Lib.bytesWorld_cell w e s j hj
    simp only [World.cell?, Lib.bytesWorld_at_new] at h
    have h2 : (ns s).getD j 0 = ((s.data.toList.getD j 0).toNat : Int) := by
      unfold ns
      rw [List.getD_eq_getElem?_getD, List.getD_eq_getElem?_getD, List.getElem?_map]
      have : j < s.data.toList.length := by rw [← Lib.size_eq]; exact hj
      rw [List.getElem?_eq_getElem this]; rfl
    rw [h2]
    simpa using h
  · rw [ns_length] at hj
    have : s.size ≤ (Lib.bytesCells w e s).size := by simp [Lib.bytesCells]
    simp only
    omega
theorem conv_below (w : World) (e : TypeId) (s : ByteArray) : Below w.heap.size w (Lib.bytesWorld w e s) :=
  ⟨rfl, rfl, rfl, by rw [Lib.bytesWorld_size]; omega, fun i hi => Lib.bytesWorld_at_old w e s i hi⟩
theorem Br.text {P : Program} {w : World} {e src dst : TypeId} {g : Nat} {xs : List Int} (h : Br w e g xs) (hs : P.underlying src = some (.slice e)) (he : P.underlying e = some (.int .u8)) (hd : P.underlying dst = some .string) (cap : Nat) :
    (convert src dst (.slice (some ⟨g, 0, none⟩) xs.length cap)).run P w = .ok (.string (strOfNums xs)) w :=
  run_convert_bytes_arg w src e hs he g 0 xs.length cap xs rfl (fun i hi => by rw [Nat.zero_add]; exact h.cell i hi) dst hd
def TabIs (S : ByteArray) (f : Int → Int) : Prop := S.size = 256 ∧ ∀ n : Fin 256, bt S ((n.val : Nat) : Int) = f ((n.val : Nat) : Int)
instance (S : ByteArray) (f : Int → Int) : Decidable (TabIs S f) := inferInstanceAs (Decidable (_ ∧ _))
end Go.Proofs.YtgmjaggkiifdjaaDoor.Gv
namespace Go.Proofs.YtgmjaggkiifdjaaDoor.Given
open Go.RowKit Go.Proofs.YtgmjaggkiifdjaaDoorW.PrintWords Go.Proofs.YtgmjaggkiifdjaaDoor.Base Go.Proofs.YtgmjaggkiifdjaaDoor.Gv
def laws_low.f (a0 : ByteArray) : Option ByteArray := if a0.size ≤ 4611686018427387904 then some (strOfNums ((ns a0).map lo)) else none
def loTo (xs : List Int) (k : Nat) : List Int := (xs.take k).map lo ++ xs.drop k
theorem loTo_length (xs : List Int) (k : Nat) : (loTo xs k).length = xs.length := by simp [loTo]; omega
theorem loTo_zero (xs : List Int) : loTo xs 0 = xs := by simp [loTo]
theorem loTo_all (xs : List Int) : loTo xs xs.length = xs.map lo := by simp [loTo]
theorem loTo_at (xs : List Int) (k : Nat) (h : k < xs.length) : (loTo xs k).getD k 0 = xs.getD k 0 := by
  rw [List.getD_eq_getElem?_getD, List.getD_eq_getElem?_getD, loTo, List.getElem?_append_right (by simp; omega)]
  simp [Nat.min_eq_left (Nat.le_of_lt h)]
theorem loTo_succ (xs : List Int) (k : Nat) (h : k < xs.length) : loTo xs (k + 1) = (loTo xs k).set k (lo (xs.getD k 0)) := by
  have hl : ((xs.take k).map lo).length = k := by simp; omega
  have e2 : xs.drop k = xs[k] :: xs.drop (k + 1) := List.drop_eq_getElem_cons h
  have e3 : xs.getD k 0 = xs[k] := by rw [List.getD_eq_getElem?_getD, List.getElem?_eq_getElem h]; rfl
  unfold loTo
  rw [List.set_append_right _ _ (by omega), hl, Nat.sub_self, e2, List.set_cons_zero, e3, List.take_succ_eq_append_getElem h, List.map_append, List.append_assoc]
  rfl
theorem loTo_keep (xs : List Int) (k : Nat) (h : k < xs.length) (hx : lo (xs.getD k 0) = xs.getD k 0) : loTo xs (k + 1) = loTo xs k := by
  have hl : k < (loTo xs k).length := by rw [loTo_length]; exact h
  have e : (loTo xs k)[k] = xs.getD k 0 := by
    have := loTo_at xs k h
    rw [List.getD_eq_getElem?_getD, List.getElem?_eq_getElem hl] at this
    exact this
  rw [loTo_succ xs k h, hx, ← e, List.set_getElem_self]
set_option maxHeartbeats 1000000 in
theorem low_calls (a0 : ByteArray) (w : World) (hbd : a0.size ≤ 4611686018427387904) :
    Calls Tryd.prog 12 #[.string a0] w fun e w' => e = .returned (.string (strOfNums ((ns a0).map lo))) ∧ Below w.heap.size w w' := by
  have hcv := Lib.run_convert_string_bytes (P := Tryd.prog) w 9 49 5 a0 Tryd.underlying9 Tryd.underlying49 Tryd.underlying5
  have hbr := Br.conv w 5 a0
  have hbl := conv_below w 5 a0
  have hsz := Lib.bytesWorld_size w 5 a0
  obtain ⟨c, hc⟩ : ∃ c, grownCap w a0.size 0 5 = c := ⟨_, rfl⟩
  rw [hc] at hcv
  clear hc
  obtain ⟨W, hW⟩ : ∃ W, Lib.bytesWorld w 5 a0 = W := ⟨_, rfl⟩
  rw [hW] at hcv hbr hbl hsz
  clear hW
  have HB := Lib.hid hbr
  have HL := Lib.hid hbl
  have HS := Lib.hid hsz
  clear hbr hbl hsz
  go_enter Tryd.func12, Tryd.ntmps12
  go_wp2
  go_loopw [9] (fun i wr => ∃ k : Nat, k ≤ a0.size ∧ i = .int .i64 k ∧ Hid (Br wr 5 w.heap.size (loTo (ns a0) k)) ∧ Hid (Below w.heap.size w wr)) (fun i _ => a0.size - (intOf i).toNat)
  case atStart => exact ⟨0, Nat.zero_le _, rfl, Lib.hid (by rw [loTo_zero]; exact HB.out), HL⟩
  case round =>
    obtain ⟨k, hk, rfl, HBr, HBl⟩ := hrel
    by_cases hlt : k < a0.size
    · have hlen : k < (loTo (ns a0) k).length := by rw [loTo_length, ns_length]; exact hlt
      have hcell := HBr.out.cell k hlen
      have hfree := HBr.out.free k hlen
      have hset := Lib.hid (fun v => HBr.out.set k v)
      rw [loTo_at _ _ (by rw [ns_length]; exact hlt)] at hcell
      have hrg := ns_range a0 ((ns a0).getD k 0) (by
        have hlt' : k < (ns a0).length := by rw [ns_length]; exact hlt
        rw [List.getD_eq_getElem?_getD, List.getElem?_eq_getElem hlt']; exact List.getElem_mem hlt')
      have hsucc := Lib.hid (loTo_succ (ns a0) k (by rw [ns_length]; exact hlt))
      obtain ⟨x, hx⟩ : ∃ x, (ns a0).getD k 0 = x := ⟨_, rfl⟩
      have hkeep := Lib.hid (loTo_keep (ns a0) k (by rw [ns_length]; exact hlt))
      have hkeep' : Hid (lo x = x → loTo (ns a0) (k + 1) = loTo (ns a0) k) := Lib.hid (by rw [← hx]; exact hkeep.out)
      have hsucc' : Hid (loTo (ns a0) (k + 1) = (loTo (ns a0) k).set k (lo x)) := Lib.hid (by rw [hsucc.out, hx])
      rw [hx] at hcell hrg
      clear hsucc hkeep hx
      by_cases c1 : 65 ≤ x
      · by_cases c2 : x ≤ 90
        · have hv : Hid (lo x = x + 32) := Lib.hid (if_pos ⟨c1, c2⟩)
          go_wp2
          go_roundw
          case rel => exact ⟨k + 1, by omega, by go_num, Lib.hid (by rw [hsucc'.out, hv.out]; exact hset.out _), Lib.hid (HBl.out.setCell (Nat.le_refl _) _)⟩
          case measure => simp [intOf]; omega
        · have hv : Hid (lo x = x) := Lib.hid (if_neg (by omega))
          go_wp2
          go_roundw
          case rel => exact ⟨k + 1, by omega, by go_num, Lib.hid (by rw [hkeep'.out hv.out]; exact HBr.out), HBl⟩
          case measure => simp [intOf]; omega
      · have hv : Hid (lo x = x) := Lib.hid (if_neg (by omega))
        go_wp2
        go_roundw
        case rel => exact ⟨k + 1, by omega, by go_num, Lib.hid (by rw [hkeep'.out hv.out]; exact HBr.out), HBl⟩
        case measure => simp [intOf]; omega
    · have hkk : k = a0.size := by omega
      have htx := HBr.out.text (P := Tryd.prog) (src := 49) (dst := 9) Tryd.underlying49 Tryd.underlying5 Tryd.underlying9 c
      rw [loTo_length, ns_length] at htx
      have hall : Hid (loTo (ns a0) k = (ns a0).map lo) := Lib.hid (by rw [hkk, ← ns_length, loTo_all])
      clear hkk
      go_wp2
      go_ret
      exact ⟨by rw [hall.out]; rfl, HBl.out⟩
end Go.Proofs.YtgmjaggkiifdjaaDoor.Given
namespace Go.Proofs.YtgmjaggkiifdjaaDoor.Hlp
open Go.RowKit Go.Proofs.YtgmjaggkiifdjaaDoorW.PrintWords Go.Proofs.YtgmjaggkiifdjaaDoor.Base Go.Proofs.YtgmjaggkiifdjaaDoor.Gv
theorem bwk {B C : Nat} {a b : World} (h : B ≤ C) (k : Below C a b) : Below B a b := ⟨k.os, k.tape, k.output, k.size, fun i hi => k.block i (by omega)⟩
theorem dB {P : Program} {n : Nat} {a : Array Value} {W : World} {r : Value} (h : Calls P n a W fun e w' => e = .returned r ∧ Drawn0 W w') : Calls P n a W fun e w' => e = .returned r ∧ Below W.heap.size W w' :=
  h.mono (fun e w' ⟨he, n, hn⟩ => ⟨he, by subst hn; exact pw_below_drewN (Below.refl _ _) n⟩)
theorem strs_reps (W : World) (base : Nat) (ok : Nat → Prop) : ∀ l : List ByteArray, Reps (Kd.string.M W base ok) 1 l (l.map Value.string)
  | [] => Reps.none _ _
  | s :: r => Reps.one (show Kd.M Kd.string _ _ _ s [.string s] from rfl) (strs_reps W base ok r)
theorem strs_lit (w : World) (l : List ByteArray) (hl : l.length ≤ 1000000) (cs : Array Value) (hcs : cs = (l.map Value.string).toArray) : Kd.C Kd.string (w.alloc (.cells cs 9)) (some ⟨w.heap.size, 0, none⟩) l.length l := by
  subst hcs
  have hrep := strs_reps w w.heap.size (fun _ => True) l
  have h2 := World.ownsRow_lit (base := w.heap.size) (e := 9) (size := 1) w (l.map Value.string).toArray l.length (Nat.le_refl _) (by unfold maxLen; omega) (by simp)
  have hR : Kd.R Kd.string 9 (w.alloc (.cells (l.map Value.string).toArray 9)) w.heap.size (fun _ => True) (.slice (some ⟨w.heap.size, 0, none⟩) l.length l.length) l := by
    refine ⟨fun k hk => trivial, l.map Value.string, by simpa [show Kd.string.sz = 1 from rfl] using h2, ?_⟩
    exact (strs_reps _ _ _ l)
  exact (Kd.R_reads' hR).2.2
end Go.Proofs.YtgmjaggkiifdjaaDoor.Hlp
