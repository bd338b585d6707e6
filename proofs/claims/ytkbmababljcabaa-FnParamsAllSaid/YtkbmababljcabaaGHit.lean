/- paramsMatch's second closure: a parameter of a specification, looked for among an offer's. -/
import Derived.Test.YtkbmababljcabaaGMatch
set_option linter.unusedVariables false
namespace Go.Proofs.Ytkbmababljcabaa.Given
open Go.RowKit Go.Proofs.YtkbmababljcabaaW.PrintWords Go.Proofs.YtkbmababljcabaaW.PrintLast Go.Proofs.YtkbmababljcabaaW.PrintMore Go.Proofs.Ytkbmababljcabaa.Base Go.Proofs.Ytkbmababljcabaa.Gv Go.Proofs.Ytkbmababljcabaa.QA

theorem SpRow.kept {w : World} {h o c : Nat} {sp : SP} {cs : Array Value} (hr : SpRow w h o sp) (hc : w.heap[c]? = some (.cells cs 4 (0, 0))) (u : Value) : SpRow (w.setCell ⟨c, 0, none⟩ u) h o sp := by
  obtain ⟨h1, g, cap, hh, hgo, ho⟩ := hr
  have hoc : o ≠ c := by rintro rfl; rw [hh] at hc; simp at hc
  refine ⟨h1, g, cap, ?_, hgo, ?_⟩
  · rw [Below.heap_setCell _ _ _ _ hoc]; exact hh
  · exact own_setCell ho (own_ne ho hc (by decide)) u
theorem SpRow.below {w w' : World} {h o : Nat} {sp : SP} (hr : SpRow w h o sp) (hb : Below w.heap.size w w') : SpRow w' h o sp := by
  obtain ⟨h1, g, cap, hh, hgo, ho⟩ := hr
  have hol : o < w.heap.size := (Array.getElem?_eq_some_iff.1 hh).1
  exact ⟨h1, g, cap, by rw [hb.block o hol]; exact hh, hgo, pw_own_below ho hb⟩
structure HitRow (w : World) (h o b fb ab : Nat) (sp : SP) (k : Nat) (s : Bool × Bool) : Prop where
  row : SpRow w h o sp
  at_ : w.heap[b]? = some (.cells #[.int .i64 k] 3 (0, 0))
  hit : w.heap[fb]? = some (.cells #[.bool s.1] 4 (0, 0))
  all : w.heap[ab]? = some (.cells #[.bool s.2] 4 (0, 0))
theorem HitRow.set_hit {w : World} {h o b fb ab : Nat} {sp : SP} {k : Nat} {s : Bool × Bool} (hr : HitRow w h o b fb ab sp k s) (hne : fb ≠ ab) (x : Bool) : HitRow (w.setCell ⟨fb, 0, none⟩ (.bool x)) h o b fb ab sp k (x, s.2) := by
  refine ⟨hr.row.kept hr.hit _, ?_, ?_, ?_⟩
  · rw [Below.heap_setCell _ _ _ _ (show b ≠ fb by rintro rfl; have := hr.at_; rw [hr.hit] at this; simp at this)]; exact hr.at_
  · have := heap_setCell_same w fb 0 _ 4 (.bool x) hr.hit; simpa using this
  · rw [Below.heap_setCell _ _ _ _ (show ab ≠ fb from hne.symm)]; exact hr.all
theorem HitRow.set_all {w : World} {h o b fb ab : Nat} {sp : SP} {k : Nat} {s : Bool × Bool} (hr : HitRow w h o b fb ab sp k s) (hne : fb ≠ ab) (x : Bool) : HitRow (w.setCell ⟨ab, 0, none⟩ (.bool x)) h o b fb ab sp k (s.1, x) := by
  refine ⟨hr.row.kept hr.all _, ?_, ?_, ?_⟩
  · rw [Below.heap_setCell _ _ _ _ (show b ≠ ab by rintro rfl; have := hr.at_; rw [hr.all] at this; simp at this)]; exact hr.at_
  · rw [Below.heap_setCell _ _ _ _ (show fb ≠ ab from hne)]; exact hr.hit
  · have := heap_setCell_same w ab 0 _ 4 (.bool x) hr.all; simpa using this
theorem HitRow.drewN {w : World} {h o b fb ab : Nat} {sp : SP} {k : Nat} {s : Bool × Bool} (hr : HitRow w h o b fb ab sp k s) (n : Nat) : HitRow (w.drewN n) h o b fb ab sp k s := ⟨hr.row, hr.at_, hr.hit, hr.all⟩
theorem eqFold_f (a b : ByteArray) (ha : a.size ≤ 1099511627776) (hb : b.size ≤ 1099511627776) : fiberutils_EqualFold.f a b = some (eqFold a b) := by
  unfold fiberutils_EqualFold.f
  rw [if_pos ⟨by omega, by omega⟩]
set_option maxHeartbeats 4000000 in
set_option maxRecDepth 100000 in
theorem hit_calls (w : World) (h o b fb ab : Nat) (sp : SP) (k : Nat) (hk : k < sp.length) (s : Bool × Bool) (p v : ByteArray) (hr : HitRow w h o b fb ab sp k s) (hne : fb ≠ ab) (hle : ab ≤ fb)
    (hp : p.size ≤ 1099511627776) (hv : v.size ≤ 1099511627776) (hs : (sp[k]).1.size ≤ 1099511627776 ∧ (sp[k]).2.size ≤ 1099511627776) (hsl : sp.length ≤ 9223372036854775807) :
    Calls Try.prog 87 #[.string p, .string v, .pointer (some ⟨o, 0, none⟩), .pointer (some ⟨b, 0, none⟩), .pointer (some ⟨fb, 0, none⟩), .pointer (some ⟨ab, 0, none⟩)] w
      fun e w' => e = .returned (.bool (hitStep (sp[k]) s p v).1) ∧ HitRow w' h o b fb ab sp k (hitStep (sp[k]) s p v).2 ∧ Below ab w w' := by
  obtain ⟨hho, g, cap, hh, hgo, ho⟩ := hr.row
  have c0 : ∀ n : Nat, (w.drewN n).cell? ⟨o, 0, none⟩ = some (.slice (some ⟨g, 0, none⟩) sp.length cap) := fun n => by rw [cell_of_row (w.drewN n) o 0 _ _ (0, 0) hh]; rfl
  have cb : ∀ n : Nat, (w.drewN n).cell? ⟨b, 0, none⟩ = some (.int .i64 k) := fun n => by rw [cell_of_row (w.drewN n) b 0 _ _ (0, 0) hr.at_]; rfl
  obtain ⟨key, hkey⟩ : ∃ x, (sp[k]).1 = x := ⟨_, rfl⟩
  obtain ⟨val, hval⟩ : ∃ x, (sp[k]).2 = x := ⟨_, rfl⟩
  have hq : sp[k] = (key, val) := by rw [← hkey, ← hval]
  have ck : w.cell? ⟨g, k * 2, none⟩ = some (.string key) := by
    have := World.ownsRow.cellAt ho (k * 2) (by omega)
    rw [flatS_key sp k hk, hkey] at this
    exact this
  have cv : w.cell? ⟨g, k * 2 + 1, none⟩ = some (.string val) := by
    have := World.ownsRow.cellAt ho (k * 2 + 1) (by omega)
    rw [flatS_val sp k hk, hval] at this
    exact this
  rw [hkey, hval] at hs
  rw [hq]
  have hE1 := Lib.hid (eqFold_f key p hs.1 hp)
  have hE2 := Lib.hid (eqFold_f val v hs.2 hv)
  have c00 : w.cell? ⟨o, 0, none⟩ = some (.slice (some ⟨g, 0, none⟩) sp.length cap) := c0 0
  have cb0 : w.cell? ⟨b, 0, none⟩ = some (.int .i64 k) := cb 0
  have HR := Lib.hid hr
  have HVAL := Lib.hid hval
  clear hh ho hkey hval hq hs hr
  cases he : eqFold key p with
  | false =>
    rw [he] at hE1
    have e1 : hitStep (key, val) s p v = (true, s) := by unfold hitStep; rw [if_neg (by rw [he]; simp)]
    rw [e1]
    clear e1 he hE2 cv
    go_enter Try.func87, Try.ntmps87
    go_wp2_with (go_at_call 86; refine (fiberutils_EqualFold.calls key p false _ hE1.out).mono ?_; rintro e w' ⟨rfl, ⟨n1, rfl⟩⟩)
    go_ret
    exact ⟨rfl, HR.out.drewN n1, pw_below_drewN (Below.refl _ _) n1⟩
  | true =>
    rw [he] at hE1
    have e1 : hitStep (key, val) s p v = (false, (true, eqFold val v)) := by unfold hitStep; rw [if_pos he]
    rw [e1]
    obtain ⟨y, hy⟩ : ∃ y, eqFold val v = y := ⟨_, rfl⟩
    rw [hy] at hE2
    rw [hy]
    clear e1 he hy
    have facts : Hid (∀ n1 : Nat, HitRow ((w.drewN n1).setCell ⟨fb, 0, none⟩ (.bool true)) h o b fb ab sp k (true, s.2)) := Lib.hid (fun n1 => (HR.out.drewN n1).set_hit hne true)
    go_enter Try.func87, Try.ntmps87
    go_upto_region 3 with (go_at_call 86; refine (fiberutils_EqualFold.calls key p true _ hE1.out).mono ?_; rintro e w' ⟨rfl, ⟨n1, rfl⟩⟩; have fz := frozen_of_row (w.drewN n1) fb 0 _ _ HR.out.hit; have fc : w.cell? ⟨fb, 0, none⟩ = some (.bool s.1) := (cell_of_row w fb 0 _ _ (0, 0) HR.out.hit).trans rfl)
    obtain ⟨W1, hW1⟩ : ∃ W, (w.drewN n1).setCell ⟨fb, 0, none⟩ (.bool true) = W := ⟨_, rfl⟩
    have hr1 := facts.out n1
    have hbl1 : Below ab w W1 := by rw [← hW1]; exact (pw_below_drewN (Below.refl ab w) n1).setCell (p := ⟨fb, 0, none⟩) hle _
    rw [hW1] at hr1 ⊢
    obtain ⟨hho1, g1, cap1, hh1, hgo1, ho1⟩ := hr1.row
    have d0 : W1.cell? ⟨o, 0, none⟩ = some (.slice (some ⟨g1, 0, none⟩) sp.length cap1) := by rw [cell_of_row W1 o 0 _ _ (0, 0) hh1]; rfl
    have d1 : W1.cell? ⟨b, 0, none⟩ = some (.int .i64 k) := by rw [cell_of_row W1 b 0 _ _ (0, 0) hr1.at_]; rfl
    have d2 : W1.cell? ⟨g1, k * 2 + 1, none⟩ = some (.string val) := by
      have := World.ownsRow.cellAt ho1 (k * 2 + 1) (by omega)
      rw [flatS_val sp k hk, HVAL.out] at this
      exact this
    have HR1 := Lib.hid hr1
    have HBL1 := Lib.hid hbl1
    clear c00 cb0 ck cv c0 cb fz fc hh1 ho1 hr1 hbl1 facts HR hW1
    go_wp2_with (go_at_call 86; refine (fiberutils_EqualFold.calls val v y _ hE2.out).mono ?_; rintro e w' ⟨rfl, ⟨n2, rfl⟩⟩; have fz2 := frozen_of_row (W1.drewN n2) ab 0 _ _ HR1.out.all; have fc2 : W1.cell? ⟨ab, 0, none⟩ = some (.bool s.2) := (cell_of_row W1 ab 0 _ _ (0, 0) HR1.out.all).trans rfl)
    go_ret
    exact ⟨rfl, (HR1.out.drewN n2).set_all hne y, HBL1.out.trans ((pw_below_drewN (Below.refl ab W1) n2).setCell (p := ⟨ab, 0, none⟩) (Nat.le_refl _) _)⟩
end Go.Proofs.Ytkbmababljcabaa.Given
