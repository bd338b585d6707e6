/- Texts of this claim, one behind the other (merged by wip/prune.py of this repo, without what the proof does not use): GStat, GvRow, LHelp. -/
import Derived.Test.YtgmjaggkiifdjaaDoorZU1
import Derived.Test.YtgmjaggkiifdjaaDoorZU2
import Derived.Test.YtgmjaggkiifdjaaDoorZU3
import Derived.Below
import Derived.BigQuiet
import Derived.Deep.LoopGhost
import Derived.Deep.QuietTactic
import Derived.KernelRfl
import Derived.Laws.BytesArg
import Derived.Laws.RangeAny
import Derived.Laws.RangeString
import Derived.Laws.Slices
import Derived.Lib.ConvBytes
import Derived.Lib.Hide
import Derived.Lib.TrimU
import Derived.MapKept
import Derived.Outline
import Derived.OwnWalk
import Derived.RowKit3
import Derived.Tactics
import Derived.Test.YtgmjaggkiifdjaaDoorProg
import Derived.WalkKit
import Derived.WalkLawsBesides
import Derived.WalkSpells
import Derived.WideLaws
set_option linter.unusedVariables false
set_option linter.unusedSimpArgs false
namespace Go.Proofs.YtgmjaggkiifdjaaDoor.Given
open Go.RowKit Go.Proofs.YtgmjaggkiifdjaaDoorW.PrintWords Go.Proofs.YtgmjaggkiifdjaaDoorW.PrintLast Go.Proofs.YtgmjaggkiifdjaaDoorW.PrintMore Go.Proofs.YtgmjaggkiifdjaaDoor.Base
def statL : List (Int × ByteArray) := [
  (100, ⟨#[67, 111, 110, 116, 105, 110, 117, 101]⟩),
  (101, ⟨#[83, 119, 105, 116, 99, 104, 105, 110, 103, 32, 80, 114, 111, 116, 111, 99, 111, 108, 115]⟩),
  (102, ⟨#[80, 114, 111, 99, 101, 115, 115, 105, 110, 103]⟩),
  (200, ⟨#[79, 75]⟩),
  (201, ⟨#[67, 114, 101, 97, 116, 101, 100]⟩),
  (202, ⟨#[65, 99, 99, 101, 112, 116, 101, 100]⟩),
  (203, ⟨#[78, 111, 110, 45, 65, 117, 116, 104, 111, 114, 105, 116, 97, 116, 105, 118, 101, 32, 73, 110, 102, 111, 114, 109, 97, 116, 105, 111, 110]⟩),
  (204, ⟨#[78, 111, 32, 67, 111, 110, 116, 101, 110, 116]⟩),
  (205, ⟨#[82, 101, 115, 101, 116, 32, 67, 111, 110, 116, 101, 110, 116]⟩),
  (206, ⟨#[80, 97, 114, 116, 105, 97, 108, 32, 67, 111, 110, 116, 101, 110, 116]⟩),
  (207, ⟨#[77, 117, 108, 116, 105, 45, 83, 116, 97, 116, 117, 115]⟩),
  (208, ⟨#[65, 108, 114, 101, 97, 100, 121, 32, 82, 101, 112, 111, 114, 116, 101, 100]⟩),
  (226, ⟨#[73, 77, 32, 85, 115, 101, 100]⟩),
  (300, ⟨#[77, 117, 108, 116, 105, 112, 108, 101, 32, 67, 104, 111, 105, 99, 101, 115]⟩),
  (301, ⟨#[77, 111, 118, 101, 100, 32, 80, 101, 114, 109, 97, 110, 101, 110, 116, 108, 121]⟩),
  (302, ⟨#[70, 111, 117, 110, 100]⟩),
  (303, ⟨#[83, 101, 101, 32, 79, 116, 104, 101, 114]⟩),
  (304, ⟨#[78, 111, 116, 32, 77, 111, 100, 105, 102, 105, 101, 100]⟩),
  (305, ⟨#[85, 115, 101, 32, 80, 114, 111, 120, 121]⟩),
  (307, ⟨#[84, 101, 109, 112, 111, 114, 97, 114, 121, 32, 82, 101, 100, 105, 114, 101, 99, 116]⟩),
  (308, ⟨#[80, 101, 114, 109, 97, 110, 101, 110, 116, 32, 82, 101, 100, 105, 114, 101, 99, 116]⟩),
  (400, ⟨#[66, 97, 100, 32, 82, 101, 113, 117, 101, 115, 116]⟩),
  (401, ⟨#[85, 110, 97, 117, 116, 104, 111, 114, 105, 122, 101, 100]⟩),
  (402, ⟨#[80, 97, 121, 109, 101, 110, 116, 32, 82, 101, 113, 117, 105, 114, 101, 100]⟩),
  (403, ⟨#[70, 111, 114, 98, 105, 100, 100, 101, 110]⟩),
  (404, ⟨#[78, 111, 116, 32, 70, 111, 117, 110, 100]⟩),
  (405, ⟨#[77, 101, 116, 104, 111, 100, 32, 78, 111, 116, 32, 65, 108, 108, 111, 119, 101, 100]⟩),
  (406, ⟨#[78, 111, 116, 32, 65, 99, 99, 101, 112, 116, 97, 98, 108, 101]⟩),
  (407, ⟨#[80, 114, 111, 120, 121, 32, 65, 117, 116, 104, 101, 110, 116, 105, 99, 97, 116, 105, 111, 110, 32, 82, 101, 113, 117, 105, 114, 101, 100]⟩),
  (408, ⟨#[82, 101, 113, 117, 101, 115, 116, 32, 84, 105, 109, 101, 111, 117, 116]⟩),
  (409, ⟨#[67, 111, 110, 102, 108, 105, 99, 116]⟩),
  (410, ⟨#[71, 111, 110, 101]⟩),
  (411, ⟨#[76, 101, 110, 103, 116, 104, 32, 82, 101, 113, 117, 105, 114, 101, 100]⟩),
  (412, ⟨#[80, 114, 101, 99, 111, 110, 100, 105, 116, 105, 111, 110, 32, 70, 97, 105, 108, 101, 100]⟩),
  (413, ⟨#[82, 101, 113, 117, 101, 115, 116, 32, 69, 110, 116, 105, 116, 121, 32, 84, 111, 111, 32, 76, 97, 114, 103, 101]⟩),
  (414, ⟨#[82, 101, 113, 117, 101, 115, 116, 32, 85, 82, 73, 32, 84, 111, 111, 32, 76, 111, 110, 103]⟩),
  (415, ⟨#[85, 110, 115, 117, 112, 112, 111, 114, 116, 101, 100, 32, 77, 101, 100, 105, 97, 32, 84, 121, 112, 101]⟩),
  (416, ⟨#[82, 101, 113, 117, 101, 115, 116, 101, 100, 32, 82, 97, 110, 103, 101, 32, 78, 111, 116, 32, 83, 97, 116, 105, 115, 102, 105, 97, 98, 108, 101]⟩),
  (417, ⟨#[69, 120, 112, 101, 99, 116, 97, 116, 105, 111, 110, 32, 70, 97, 105, 108, 101, 100]⟩),
  (418, ⟨#[73, 39, 109, 32, 97, 32, 116, 101, 97, 112, 111, 116]⟩),
  (422, ⟨#[85, 110, 112, 114, 111, 99, 101, 115, 115, 97, 98, 108, 101, 32, 69, 110, 116, 105, 116, 121]⟩),
  (423, ⟨#[76, 111, 99, 107, 101, 100]⟩),
  (424, ⟨#[70, 97, 105, 108, 101, 100, 32, 68, 101, 112, 101, 110, 100, 101, 110, 99, 121]⟩),
  (426, ⟨#[85, 112, 103, 114, 97, 100, 101, 32, 82, 101, 113, 117, 105, 114, 101, 100]⟩),
  (428, ⟨#[80, 114, 101, 99, 111, 110, 100, 105, 116, 105, 111, 110, 32, 82, 101, 113, 117, 105, 114, 101, 100]⟩),
  (429, ⟨#[84, 111, 111, 32, 77, 97, 110, 121, 32, 82, 101, 113, 117, 101, 115, 116, 115]⟩),
  (431, ⟨#[82, 101, 113, 117, 101, 115, 116, 32, 72, 101, 97, 100, 101, 114, 32, 70, 105, 101, 108, 100, 115, 32, 84, 111, 111, 32, 76, 97, 114, 103, 101]⟩),
  (451, ⟨#[85, 110, 97, 118, 97, 105, 108, 97, 98, 108, 101, 32, 70, 111, 114, 32, 76, 101, 103, 97, 108, 32, 82, 101, 97, 115, 111, 110, 115]⟩),
  (500, ⟨#[73, 110, 116, 101, 114, 110, 97, 108, 32, 83, 101, 114, 118, 101, 114, 32, 69, 114, 114, 111, 114]⟩),
  (501, ⟨#[78, 111, 116, 32, 73, 109, 112, 108, 101, 109, 101, 110, 116, 101, 100]⟩),
  (502, ⟨#[66, 97, 100, 32, 71, 97, 116, 101, 119, 97, 121]⟩),
  (503, ⟨#[83, 101, 114, 118, 105, 99, 101, 32, 85, 110, 97, 118, 97, 105, 108, 97, 98, 108, 101]⟩),
  (504, ⟨#[71, 97, 116, 101, 119, 97, 121, 32, 84, 105, 109, 101, 111, 117, 116]⟩),
  (505, ⟨#[72, 84, 84, 80, 32, 86, 101, 114, 115, 105, 111, 110, 32, 78, 111, 116, 32, 83, 117, 112, 112, 111, 114, 116, 101, 100]⟩),
  (506, ⟨#[86, 97, 114, 105, 97, 110, 116, 32, 65, 108, 115, 111, 32, 78, 101, 103, 111, 116, 105, 97, 116, 101, 115]⟩),
  (507, ⟨#[73, 110, 115, 117, 102, 102, 105, 99, 105, 101, 110, 116, 32, 83, 116, 111, 114, 97, 103, 101]⟩),
  (508, ⟨#[76, 111, 111, 112, 32, 68, 101, 116, 101, 99, 116, 101, 100]⟩),
  (510, ⟨#[78, 111, 116, 32, 69, 120, 116, 101, 110, 100, 101, 100]⟩),
  (511, ⟨#[78, 101, 116, 119, 111, 114, 107, 32, 65, 117, 116, 104, 101, 110, 116, 105, 99, 97, 116, 105, 111, 110, 32, 82, 101, 113, 117, 105, 114, 101, 100]⟩)]
def stOp (T : TypeId) (p : Int × ByteArray) : Oper := { dst := none, op := .insert T (.tmp 1) (.const (.int .i64 p.1)) (.const (.string p.2)), type := 0, pos := "status.go:120", after := #[{ on := 0, ground := .data }], guard := none }
def MapAt (w0 : World) (L : List (Int × ByteArray)) (W : World) : Prop :=
  Below w0.heap.size w0 W ∧ ∃ es clock, W.heap[w0.heap.size]? = some (.map es clock) ∧ es.toList.map (fun e => (e.key, e.val)) = L.map fun p => (.int .i64 p.1, .string p.2)
theorem MapAt.key {w0 W : World} {L : List (Int × ByteArray)} {es : Array MapEntry} (h : es.toList.map (fun e => (e.key, e.val)) = L.map fun p => ((.int .i64 p.1 : Value), (.string p.2 : Value))) : ∀ x ∈ es.toList, ∃ p ∈ L, x.key = .int .i64 p.1 ∧ x.val = .string p.2 := by
  intro x hx
  have : (x.key, x.val) ∈ es.toList.map (fun e => (e.key, e.val)) := List.mem_map.2 ⟨x, hx, rfl⟩
  rw [h] at this
  obtain ⟨p, hp, e⟩ := List.mem_map.1 this
  exact ⟨p, hp, (Prod.mk.inj e).1.symm, (Prod.mk.inj e).2.symm⟩
theorem upd_new {P : Program} {w0 W : World} {L : List (Int × ByteArray)} {mty kt et : TypeId} (hm : P.underlying mty = some (.map kt et)) (hd : P.underlying kt = some (.int .i64)) (h : MapAt w0 L W) (k : Int) (v : ByteArray) (hk : k ∉ L.map Prod.fst) :
    ∃ W', (Instr.mapUpdate mty (.map (some w0.heap.size)) (.int .i64 k) (.string v)).run P W = .ok () W' ∧ MapAt w0 (L ++ [(k, v)]) W' := by
  obtain ⟨hb, es, clock, hh, he⟩ := h
  have hkeys := MapAt.key (w0 := w0) (W := W) he
  have hk1 : MapKept.IsKey (.int .i64) (.int .i64 k) := rfl
  rcases MapKept.findNow_spec hk1 es.toList 0 (fun x hx => by obtain ⟨p, _, e, _⟩ := hkeys x hx; rw [e]; exact rfl) with ⟨h1, h2⟩ | ⟨j, e, _, h2, h3⟩
  · refine ⟨{ W with heap := W.heap.setIfInBounds w0.heap.size (.map (es.push { key := .int .i64 k, val := .string v, born := clock }) (clock + 1)) }, ?_, ?_⟩
    · simp [Instr.mapUpdate, run_underlying hm, MapKept.run_getObj_map hh, MapKept.run_checkKey hd hk1, MapKept.run_findKey hd h1, MapKept.run_setObj_map _ hh, Result.andThen]
    · obtain ⟨s1, s2⟩ := MapKept.heap_set (w := W) (r := w0.heap.size) (o' := .map (es.push { key := .int .i64 k, val := .string v, born := clock }) (clock + 1)) hh
      refine ⟨⟨hb.os, hb.tape, hb.output, by show _ ≤ (W.heap.setIfInBounds _ _).size; simpa using hb.size, fun i hi => (s2 i (by omega)).trans (hb.block i hi)⟩, _, _, s1, ?_⟩
      rw [Array.toList_push, List.map_append, List.map_append, he]
      rfl
  · exfalso
    obtain ⟨p, hp, e1, _⟩ := hkeys e (List.mem_of_getElem? h2)
    rw [e1] at h3
    injection h3 with _ h4
    exact hk (List.mem_map.2 ⟨p, hp, h4⟩)
theorem ins_all {P : Program} {ops : Array Oper} {Q : Exit → Act → World → Prop} {a : Act} {w0 : World} {rest : List Oper} {T kt et : TypeId} (hm : P.underlying T = some (.map kt et)) (hd : P.underlying kt = some (.int .i64)) (ha : a.tmps.getD 1 undef = .map (some w0.heap.size)) :
    ∀ (M L : List (Int × ByteArray)) (W : World), MapAt w0 L W → ((L ++ M).map Prod.fst).Nodup → (∀ W', MapAt w0 (L ++ M) W' → wpList P ops Q rest a W') → wpList P ops Q (M.map (stOp T) ++ rest) a W
  | [], L, W, h, _, hq => hq W (by rw [List.append_nil]; exact h)
  | (k, v) :: M, L, W, h, hn, hq => by
    have hk : k ∉ L.map Prod.fst := by
      rw [List.map_append, List.map_cons] at hn
      have := (List.nodup_append.1 hn).2.2
      exact fun hin => this k hin k (List.mem_cons_self ..) rfl
    obtain ⟨W', hr, hW'⟩ := upd_new hm hd h k v hk
    have ih := ins_all (rest := rest) (ops := ops) (Q := Q) hm hd ha M (L ++ [(k, v)]) W' hW' (by rw [List.append_assoc]; exact hn) (by rw [List.append_assoc]; exact hq)
    rw [List.map_cons, List.cons_append]
    refine wpList_plain rfl fun K hK => ?_
    unfold Oper.wp execOp
    simp only [stOp, ha, Act.eval, Sem.run_bind, Sem.run_pure, Result.andThen_ok, hr]
    exact hK _ _ ih
theorem wpList_split {P : Program} {ops : Array Oper} {Q : Exit → Act → World → Prop} {a : Act} {w : World} {l : List Oper} (n : Nat) (M : List Oper) (h : l.take n = M) (k : wpList P ops Q (M ++ l.drop n) a w) : wpList P ops Q l a w := by rw [← h, List.take_append_drop] at k; exact k
theorem stat_nodup : (statL.map Prod.fst).Nodup := by decide
set_option maxHeartbeats 1000000 in
set_option maxRecDepth 100000 in
theorem statMsgs_calls (w : World) : Calls Tryd.prog 78 #[] w fun e w' => e = .returned (.map (some w.heap.size)) ∧ MapAt w statL w' := by
  go_enter Tryd.func78, Tryd.ntmps78
  go_upto_region 1 with (fail)
  refine wp_region_lit ?_
  refine wpList_plain rfl fun K hK => ?_
  unfold Oper.wp execOp
  simp only [run_makeMap, Sem.run_bind, Sem.run_pure, Result.andThen_ok, Option.map_none]
  refine hK _ _ ?_
  clear hK
  refine wpList_split 59 (statL.map (stOp 62)) (by kernel_rfl) ?_
  refine ins_all (w0 := w) Tryd.underlying62 Tryd.underlying3 rfl statL [] _ ⟨(Below.refl _ _).alloc (Nat.le_refl _) _, #[], 0, heap_alloc_new w _, rfl⟩ stat_nodup (fun W' hW' => ?_)
  rw [List.nil_append] at hW'
  have HW := Lib.hid hW'
  clear hW'
  show wpList _ _ _ [_, _] _ _
  go_wp2
  go_ret
  exact ⟨rfl, HW.out⟩
end Go.Proofs.YtgmjaggkiifdjaaDoor.Given
namespace Go.Proofs.YtgmjaggkiifdjaaDoor.Gv
open Go.RowKit Go.Proofs.YtgmjaggkiifdjaaDoorW.PrintWords Go.Proofs.YtgmjaggkiifdjaaDoorW.PrintLast Go.Proofs.YtgmjaggkiifdjaaDoorW.PrintMore Go.Proofs.YtgmjaggkiifdjaaDoor.Base
def Br (w : World) (e : TypeId) (g : Nat) (xs : List Int) : Prop :=
  ∃ cur fr, w.heap[g]? = some (.cells cur e fr) ∧ (∀ j, j < xs.length → cur[j]? = some (.int .u8 (xs.getD j 0))) ∧ ∀ j, j < xs.length → ¬ (fr.1 ≤ j ∧ j < fr.2)
theorem Br.cell {w : World} {e : TypeId} {g : Nat} {xs : List Int} (h : Br w e g xs) (j : Nat) (hj : j < xs.length) : w.cell? ⟨g, j, none⟩ = some (.int .u8 (xs.getD j 0)) := by
  obtain ⟨cur, fr, hb, hc, _⟩ := h
  simp only [World.cell?, hb]
  exact hc j hj
theorem Br.conv (w : World) (e : TypeId) (s : ByteArray) : Br (Lib.bytesWorld w e s) e w.heap.size (ns s) := by
  refine ⟨_, _, Lib.bytesWorld_at_new w e s, fun j hj => ?_, fun j hj => ?_⟩
  · rw [ns_length] at hj
    have h := Lib.bytesWorld_cell w e s j hj
    simp only [World.cell?, Lib.bytesWorld_at_new] at h
    have h2 : (ns s).getD j 0 = ((s.data.toList.getD j 0).toNat : Int) := by
      unfold ns
      rw [List.getD_eq_getElem?_getD, List.getD_eq_getElem?_getD, List.getElem?_map]
      have : j < s.data.toList.length := by rw [← Lib.size_eq]; exact hj
      rw [List.getElem?_eq_getElem this]; rfl
    rw [h2]
    simpa using h
  · rw [ns_length] at hj
    have : s.size ≤ (Lib.bytesCells w e s).size := by simp [Lib.bytesCells]
    simp only
    omega
theorem conv_below (w : World) (e : TypeId) (s : ByteArray) : Below w.heap.size w (Lib.bytesWorld w e s) :=
  ⟨rfl, rfl, rfl, by rw [Lib.bytesWorld_size]; omega, fun i hi => Lib.bytesWorld_at_old w e s i hi⟩
theorem Br.text {P : Program} {w : World} {e src dst : TypeId} {g : Nat} {xs : List Int} (h : Br w e g xs) (hs : P.underlying src = some (.slice e)) (he : P.underlying e = some (.int .u8)) (hd : P.underlying dst = some .string) (cap : Nat) :
    (convert src dst (.slice (some ⟨g, 0, none⟩) xs.length cap)).run P w = .ok (.string (strOfNums xs)) w :=
  run_convert_bytes_arg w src e hs he g 0 xs.length cap xs rfl (fun i hi => by rw [Nat.zero_add]; exact h.cell i hi) dst hd
def TabIs (S : ByteArray) (f : Int → Int) : Prop := S.size = 256 ∧ ∀ n : Fin 256, bt S ((n.val : Nat) : Int) = f ((n.val : Nat) : Int)
instance (S : ByteArray) (f : Int → Int) : Decidable (TabIs S f) := inferInstanceAs (Decidable (_ ∧ _))
end Go.Proofs.YtgmjaggkiifdjaaDoor.Gv
namespace Go.Proofs.YtgmjaggkiifdjaaDoor.Hlp
open Go.RowKit Go.Proofs.YtgmjaggkiifdjaaDoorW.PrintWords Go.Proofs.YtgmjaggkiifdjaaDoorW.PrintLast Go.Proofs.YtgmjaggkiifdjaaDoorW.PrintMore Go.Proofs.YtgmjaggkiifdjaaDoor.Base
theorem bwk {B C : Nat} {a b : World} (h : B ≤ C) (k : Below C a b) : Below B a b := ⟨k.os, k.tape, k.output, k.size, fun i hi => k.block i (by omega)⟩
end Go.Proofs.YtgmjaggkiifdjaaDoor.Hlp
