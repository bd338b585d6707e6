/- Texts of this claim, one behind the other (merged by wip/prune.py of this repo, without what the proof does not use): TSetT, TStepF, TSetTW, TStepSetT, TTrailer. -/
import Derived.Test.YtoimkmoalmmooaaZY5
import Derived.Test.YtoimkmoalmmooaaZY12
import Derived.Test.YtoimkmoalmmooaaZY15
import Derived.Test.YtoimkmoalmmooaaZY16
import Derived.Test.YtoimkmoalmmooaaZY17
set_option linter.unusedVariables false
set_option linter.unusedSimpArgs false
namespace Go.Proofs.Ytoimkmoalmmooaa.Own
open Go.RowKit Go.Proofs.YtoimkmoalmmooaaW.PrintWords Go.Proofs.YtoimkmoalmmooaaW.PrintLast Go.Proofs.YtoimkmoalmmooaaW.PrintMore Go.Proofs.Ytoimkmoalmmooaa.Base Go.Proofs.Ytoimkmoalmmooaa.Gv Go.Proofs.Ytoimkmoalmmooaa.QA Go.Proofs.Ytoimkmoalmmooaa.Given
def trimL (xs : List Int) : List Int := xs.dropWhile (· == 32)
def trimR (xs : List Int) : List Int := (xs.reverse.dropWhile (· == 32)).reverse
def cutI (xs : List Int) : Nat := if idx xs 44 = -1 then xs.length else (idx xs 44).toNat
def keyT (dn : Bool) (xs : List Int) : List Int := nkd dn (trimR (trimL (xs.take (cutI xs))))
def setGo (dn : Bool) : Nat → List Int → List KVx → Bool → Option (List KVx × Bool)
  | _, [], acc, b => some (acc, b)
  | 0, _ :: _, _, _ => none
  | f + 1, y :: ys, acc, _ => if keyT dn (y :: ys) = [] then none else setGo dn f ((y :: ys).drop (cutI (y :: ys) + 1)) (if badK (keyT dn (y :: ys)) = true then acc else acc ++ [⟨keyT dn (y :: ys), [], true⟩]) (badK (keyT dn (y :: ys)))
theorem cutI_le (xs : List Int) : cutI xs ≤ xs.length := by
  unfold cutI
  have := idx_range xs 44
  split <;> omega
theorem trimL_hd (x : Int) (xs : List Int) (h : x ≠ 32) : trimL (x :: xs) = x :: xs := by unfold trimL; rw [List.dropWhile_cons]; simp [h]
theorem trimL_sp (xs : List Int) : trimL (32 :: xs) = trimL xs := by unfold trimL; rw [List.dropWhile_cons]; simp
theorem trimR_hd (x : Int) (xs : List Int) (h : x ≠ 32) : trimR (xs ++ [x]) = xs ++ [x] := by unfold trimR; rw [List.reverse_append]; simp [List.dropWhile_cons, h]
theorem trimR_sp (xs : List Int) : trimR (xs ++ [32]) = trimR xs := by unfold trimR; rw [List.reverse_append]; simp [List.dropWhile_cons]
theorem trimR_length (xs : List Int) : (trimR xs).length ≤ xs.length := by
  unfold trimR
  rw [List.length_reverse]
  exact Nat.le_trans (List.IsSuffix.length_le (List.dropWhile_suffix _)) (by simp)
theorem trimL_length (xs : List Int) : (trimL xs).length ≤ xs.length := List.IsSuffix.length_le (List.dropWhile_suffix _)
theorem BrO.drop {w : World} {e : TypeId} {g o : Nat} {xs : List Int} (h : BrO w e g o xs) (k : Nat) : BrO w e g (o + k) (xs.drop k) := by
  obtain ⟨cur, fr, h1, h2, h3⟩ := h
  refine ⟨cur, fr, h1, fun j hj => ?_, fun j hj => ?_⟩
  · rw [List.length_drop] at hj
    have := h2 (k + j) (by omega)
    rw [Nat.add_assoc, this]
    simp [List.getD_eq_getElem?_getD]
  · rw [List.length_drop] at hj
    have := h3 (k + j) (by omega)
    omega
theorem BrO.take {w : World} {e : TypeId} {g o : Nat} {xs : List Int} (h : BrO w e g o xs) (k : Nat) : BrO w e g o (xs.take k) := by
  obtain ⟨cur, fr, h1, h2, h3⟩ := h
  refine ⟨cur, fr, h1, fun j hj => ?_, fun j hj => ?_⟩
  · rw [List.length_take] at hj
    rw [h2 j (by omega)]
    simp [List.getD_eq_getElem?_getD, List.getElem?_take, show j < k by omega]
  · rw [List.length_take] at hj
    exact h3 j (by omega)
theorem BrO.lt {w : World} {e : TypeId} {g o : Nat} {xs : List Int} (h : BrO w e g o xs) : g < w.heap.size := by
  obtain ⟨cur, fr, h1, _⟩ := h
  exact (Array.getElem?_eq_some_iff.1 h1).1
theorem BrO.same {w w' : World} {e : TypeId} {g o : Nat} {xs : List Int} (h : BrO w e g o xs) (hb : w'.heap[g]? = w.heap[g]?) : BrO w' e g o xs := by
  obtain ⟨cur, fr, h1, h2⟩ := h
  exact ⟨cur, fr, hb.trans h1, h2⟩
theorem BrO.apart {w w' : World} {e : TypeId} {g o o2 n : Nat} {xs : List Int} (h : BrO w e g o xs) (ho : OnlyO g o2 n w w') (hd : o2 + n ≤ o) : BrO w' e g o xs := by
  obtain ⟨cur, fr, h1, h2, h3⟩ := h
  obtain ⟨cur', k1, k2, k3⟩ := ho.own cur e fr h1
  exact ⟨cur', fr, k1, fun j hj => by rw [k3 (o + j) (.inr (by omega))]; exact h2 j hj, h3⟩
theorem nhkd_calls (w : World) (g o n cap : Nat) (xs : List Int) (dn : Bool) (hn : xs.length = n) (hr : ∀ x ∈ xs, 0 ≤ x ∧ x ≤ 255) (hl : n ≤ 4611686018427387904) (hb : BrO w 5 g o xs) :
    Calls Try.prog 60 #[.slice (some ⟨g, o, none⟩) n cap, .bool dn] w fun e w' => e = .returned (.tuple #[]) ∧ BrO w' 5 g o (nkd dn xs) ∧ OnlyO g o n w w' := by
  cases dn with
  | true =>
    refine (nhk_true w _).mono ?_
    rintro e w' ⟨rfl, rfl⟩
    exact ⟨rfl, hb, OnlyO.refl _ _ _ _⟩
  | false => exact nhkO_calls w g o n cap xs hn hr hl hb
theorem cut8h (A : Option Addr) (n c k : Nat) (hk : k ≤ n) (hc : n ≤ c) (W : World) : (Instr.slice 54 (.slice A n c) none (some (.int .i64 (k : Int))) none).run Try.prog W = .ok (.slice A k c) W := by
  have hel : Try.prog.elem 54 = 5 := by simp [Program.elem, Try.underlying54]
  have hu : Try.prog.underlying 54 = some (.slice (Try.prog.elem 54)) := by rw [hel]; exact Try.underlying54
  obtain ⟨i0, hi0, hz0, hz1, hz2⟩ := info_parts info8
  have hsz : (sizeOf 5).run Try.prog W = .ok 1 W := by simp [sizeOf, typeInfo, hi0, hz1]
  have ha : (A.map fun x => x.add 0) = A := by cases A <;> simp [Addr.add]
  rw [run_slice_h W 54 A n c hu .i64 (k : Int) (by omega) (by omega), hel, hsz]
  simp [Result.andThen, sliced, ha]
def ErrV (b : Bool) (v : Value) : Prop := (b = true ∧ ∃ u x, v = .iface u x) ∨ (b = false ∧ v = .nilIface)
theorem addN_says {l : Nat → Nat} {w : World} {q p n : Nat} {V kv vv : Value} {S : List Slot} {kx vx : List Int} {dn : Bool} {A : Option Addr} {c m : Nat} {K : List Int} (hm : K.length = m)
    (h : Calls Try.prog 59 #[.pointer (some ⟨p, 0, none⟩), .slice A K.length c, .slice none 0 0, .bool true] w fun e w' => ∃ l1 V1 n1 S1, TrC l1 w' q p V1 n1 S1 kv kx vv vx dn ∧ n1 ≤ n + 1 ∧ Stp (Tz q) l l1 w w' ∧
      (if badK K = true then (∃ u x, e = .returned (.iface u x)) ∧ kvs S1 n1 = kvs S n else e = .returned .nilIface ∧ kvs S1 n1 = kvs S n ++ [⟨K, [], true⟩])) :
    Calls Try.prog 59 #[.pointer (some ⟨p, 0, none⟩), .slice A m c, .slice none 0 0, .bool true] w fun e w' => ∃ l1 V1 n1 S1 ev, e = .returned ev ∧ TrC l1 w' q p V1 n1 S1 kv kx vv vx dn ∧ n1 ≤ n + 1 ∧ Stp (Tz q) l l1 w w' ∧
      ErrV (badK K) ev ∧ kvs S1 n1 = if badK K = true then kvs S n else kvs S n ++ [⟨K, [], true⟩] := by
  subst hm
  refine h.mono ?_
  rintro e w' ⟨l1, V1, n1, S1, h1, h2, h3, h4⟩
  by_cases hb : badK K = true
  · rw [if_pos hb] at h4
    obtain ⟨⟨u, x, rfl⟩, h5⟩ := h4
    exact ⟨l1, V1, n1, S1, _, rfl, h1, h2, h3, .inl ⟨hb, u, x, rfl⟩, by rw [if_pos hb]; exact h5⟩
  · rw [if_neg hb] at h4
    obtain ⟨rfl, h5⟩ := h4
    exact ⟨l1, V1, n1, S1, _, rfl, h1, h2, h3, .inr ⟨by simpa using hb, rfl⟩, by rw [if_neg hb]; exact h5⟩
open Go.Proofs.Ytoimkmoalmmooaa.PrX
abbrev Step := S28
abbrev Pair := S34
def toP (x : KVx) : Pair := ⟨strOfNums x.k, strOfNums x.v⟩
theorem pairs_l0 : ∀ (k i : Nat) (acc : List Pair) (Z : List S96), i ≤ Z.length → Z.length - i < k → Z.length ≤ 1099511627776 → acc.length ≤ i →
    impl_pairs.l0 k acc Z (Z.length : Int) (i : Int) = some (acc ++ (Z.drop i).map fun z => (⟨z.f0, z.f1⟩ : Pair))
  | 0, i, acc, Z, _, h, _, _ => by omega
  | k + 1, i, acc, Z, hi, hk, hz, ha => by
    rw [impl_pairs.l0]
    by_cases hlt : i < Z.length
    · rw [if_pos (by omega), if_pos (by omega), if_pos (by omega), if_pos (by omega)]
      have hw : wrap64 ((i : Int) + 1) = ((i + 1 : Nat) : Int) := by unfold wrap64; omega
      rw [hw, pairs_l0 k (i + 1) _ Z (by omega) (by omega) hz (by simp; omega)]
      have hd : Z.drop i = Z[i] :: Z.drop (i + 1) := List.drop_eq_getElem_cons hlt
      have hr : rd_T96 Z (i : Int) = Z[i] := by
        unfold rd_T96
        simp [List.getD_eq_getElem?_getD, hlt]
      rw [hr, hd, List.map_cons, List.append_assoc]; rfl
    · rw [if_neg (by omega), List.drop_eq_nil_of_le (by omega)]; simp
theorem pairs_toP (L : List KVx) (h : L.length ≤ 1099511627775) : impl_pairs.f (L.length + 1) (L.map toZ) = some (L.map toP) := by
  unfold impl_pairs.f
  have := pairs_l0 (L.length + 1) 0 [] (L.map toZ) (by omega) (by simp) (by simp; omega) (by simp)
  have e : (L.map toZ).map (fun z => (⟨z.f0, z.f1⟩ : Pair)) = L.map toP := by rw [List.map_map]; rfl
  rw [List.drop_zero, List.nil_append, e] at this
  exact this
instance (L : List KVx) : Decidable (RgK L) := by unfold RgK; infer_instance
def stepF (dn : Bool) (L : List KVx) (s : Step) : Option ((ByteArray × Bool × List Pair) × Bool × List KVx) :=
  if 1099511627775 < L.length ∨ 1099511627775 < s.f1.size ∨ 1099511627775 < s.f2.size then none
  else if s.f0 = 0 ∨ s.f0 = 1 ∨ s.f0 = 9 then
    if s.f1.size = 0 then none
    else if badK (if s.f0 = 9 then ns s.f1 else nkd dn (ns s.f1)) = true then some ((⟨#[]⟩, false, []), dn, L)
    else some ((⟨#[]⟩, true, []), dn, if s.f0 = 0 then setKV (nkd dn (ns s.f1)) (ns s.f2) L else if s.f0 = 1 then L ++ [⟨nkd dn (ns s.f1), ns s.f2, false⟩] else updKV (ns s.f1) (ns s.f2) L)
  else if s.f0 = 2 then some ((⟨#[]⟩, false, []), dn, delKV (strOfNums (nkd dn (ns s.f1))) L)
  else if s.f0 = 3 then some ((strOfNums ((getKV (nkd dn (ns s.f1)) L).getD []), false, []), dn, L)
  else if s.f0 = 4 then (setGo dn s.f2.size (ns s.f2) [] false).map fun r => ((⟨#[]⟩, !r.2, []), dn, r.1)
  else if s.f0 = 5 then if sizeKV L ≤ 140737488355328 then some ((strOfNums (joinC (L.map KVx.k)), false, []), dn, L) else none
  else if s.f0 = 6 then if RgK L ∧ sizeKV L + 2 ≤ 140737488355328 then some ((strOfNums (linesOf L ++ [13, 10]), false, []), dn, L) else none
  else if s.f0 = 7 then some ((⟨#[]⟩, false, L.map toP), dn, L)
  else if s.f0 = 8 then some ((⟨#[]⟩, decide (L.length = 0), []), dn, L)
  else if s.f0 = 10 then some ((⟨#[]⟩, false, []), true, L)
  else if s.f0 = 11 then some ((⟨#[]⟩, false, []), false, [])
  else some ((⟨#[]⟩, false, []), dn, L)
end Go.Proofs.Ytoimkmoalmmooaa.Own
namespace Go.Proofs.Ytoimkmoalmmooaa.Own
open Go.RowKit Go.Proofs.YtoimkmoalmmooaaW.PrintWords Go.Proofs.YtoimkmoalmmooaaW.PrintLast Go.Proofs.YtoimkmoalmmooaaW.PrintMore Go.Proofs.Ytoimkmoalmmooaa.Base Go.Proofs.Ytoimkmoalmmooaa.Gv Go.Proofs.Ytoimkmoalmmooaa.QA Go.Proofs.Ytoimkmoalmmooaa.Given
def lenV : Value → Nat
  | .slice _ n _ => n
  | _ => 0
def MidT (l : Nat → Nat) (w : World) (q p : Nat) (kv vv : Value) (kx vx : List Int) (dn : Bool) (zl g n : Nat) (acc : List KVx) (w' : World) : Prop := ∃ l1 V1 S1, TrC l1 w' q p V1 n S1 kv kx vv vx dn ∧ kvs S1 n = acc ∧ Stp (fun lab => Tz q lab ∨ lab = zl) l l1 w w' ∧ l1 g = zl
def SetT (l : Nat → Nat) (w : World) (q p : Nat) (kv vv : Value) (kx vx : List Int) (dn : Bool) (zl g m : Nat) (R : List KVx) (b : Bool) (e : Ending) (w' : World) : Prop := ∃ ev n1, e = .returned ev ∧ ErrV b ev ∧ MidT l w q p kv vv kx vx dn zl g n1 R w' ∧ n1 ≤ m
theorem cut8a (g o n c k : Nat) (hk : k < n) (hc : n ≤ c) (W : World) : (Instr.slice 54 (.slice (some ⟨g, o, none⟩) n c) (some (.int .i64 (k : Int))) none none).run Try.prog W = .ok (.slice (some ⟨g, o + k, none⟩) (n - k) (c - k)) W := by
  have := cut8 (some ⟨g, o, none⟩) n c k (by omega) W
  rw [if_neg (by omega)] at this
  rw [this, Option.map_some, Addr.add_lit]
set_option maxHeartbeats 4000000 in
set_option maxRecDepth 100000 in
theorem tSetT_calls (l : Nat → Nat) (w : World) (q p n : Nat) (V kv vv : Value) (S : List Slot) (kx vx : List Int) (dn : Bool) (h : TrC l w q p V n S kv kx vv vx dn) (zl g c : Nat) (hz : ¬ Tz q zl) (hg : l g = zl) (xs : List Int) (hx : ∀ x ∈ xs, 0 ≤ x ∧ x ≤ 255) (hbr : BrO w 5 g 0 xs) (hc : xs.length ≤ c) (hl : xs.length ≤ 1099511627775) (f0 : Nat) (R : List KVx) (bR : Bool) (hgo : setGo dn f0 xs [] false = some (R, bR)) :
  Calls Try.prog 45 #[.pointer (some ⟨p, 0, none⟩), .slice (some ⟨g, 0, none⟩) xs.length c] w fun e w' => SetT l w q p kv vv kx vx dn zl g xs.length R bR e w' := by
 have HRS := Lib.hid (tResetSkip_calls l w q p n V kv vv S kx vx dn h)
 obtain ⟨XN, hXN⟩ : ∃ n, xs.length = n := ⟨_, rfl⟩
 rw [hXN] at hc hl ⊢
 have HXN := Lib.hid hXN
 have HZ := Lib.hid hz
 have HG := Lib.hid hg
 have HX := Lib.hid hx
 have HBR := Lib.hid hbr
 have HC := Lib.hid hc
 have HXL := Lib.hid hl
 have HGO := Lib.hid hgo
 clear h hz hg hx hbr hc hl hgo hXN
 go_enter Try.func45, Try.ntmps45
 go_wp2_with (
  go_at_call 63
  refine HRS.out.mono ?_
  rintro e w1 ⟨V1, rfl, h1, h2⟩
  have H1 := Lib.hid h1
  have H2 := Lib.hid h2
  clear h1 h2)
 go_loopw [1, 4, 5, 6] (fun tv ev iv _ wr => ∃ (o N C d n1 f : Nat) (i : Int) (ys : List Int) (acc : List KVx) (b : Bool), tv = .slice (some ⟨g, o, none⟩) N C ∧ iv = .int .i64 i ∧ Hid (i + 1 = (d : Int)) ∧ Hid (N ≤ C) ∧ Hid (ys.length = N - d) ∧ Hid (BrO wr 5 g (o + d) ys) ∧ Hid (setGo dn f ys acc b = some (R, bR)) ∧ Hid (ErrV b ev) ∧ Hid (MidT l w q p kv vv kx vx dn zl g n1 acc wr) ∧ Hid (n1 + ys.length ≤ XN) ∧ Hid (∀ x ∈ ys, 0 ≤ x ∧ x ≤ 255) ∧ Hid (N ≤ XN ∧ d ≤ N + 1)) (fun tv _ iv _ _ => lenV tv - (intOf iv + 1).toNat)
 case atStart =>
  refine ⟨0, XN, c, 0, 0, f0, -1, xs, [], false, rfl, rfl, Lib.hid (by omega), HC, Lib.hid (by have := HXN.out; omega), Lib.hid (HBR.out.same (H2.out.block g HBR.out.lt (by rw [HG.out]; exact HZ.out))), HGO, Lib.hid (.inr ⟨rfl, rfl⟩), Lib.hid ⟨l, V1, S, H1.out, rfl, H2.out.mono (fun _ k => .inl k), HG.out⟩, Lib.hid (by have := HXN.out; omega), HX, Lib.hid ⟨Nat.le_refl _, by omega⟩⟩
 case round =>
  obtain ⟨o, N, C, d, n1, f, i, ys, acc, b, rfl, rfl, HI, HNC, HYL, HB, HGO, HEV, HM, HN1, HYR, HNX⟩ := hrel
  have hi := HI.out
  have hnb := HNX.out
  have hxb := HXL.out
  have hi1 : -1 ≤ i := by omega
  have hi2 : i ≤ 1099511627776 := by omega
  cases hys : ys with
  | nil =>
   subst hys
   have hnd : N ≤ d := by have := HYL.out; simp at this; omega
   have p0 : ((d : Int) < (N : Int)) = False := by simp; omega
   clear hnd hnb hxb
   go_wp2
   go_ret
   have := HGO.out
   have e1 : setGo dn f [] acc b = some (acc, b) := by cases f <;> rfl
   rw [e1] at this
   injection this with this
   injection this with r1 r2
   subst r1 r2
   first | exact ⟨_, n1, rfl, HEV.out, HM.out, by have := HN1.out; omega⟩ | exact ⟨_, n1, ⟨rfl, HEV.out, HM.out, by have := HN1.out; omega⟩⟩
  | cons y ys' =>
   rw [hys] at HYL HB HGO HN1 HYR
   clear hys
   obtain ⟨YS, hYS⟩ : ∃ Y, y :: ys' = Y := ⟨_, rfl⟩
   have hne : YS ≠ [] := by rw [← hYS]; simp
   cases f with
   | zero => have := HGO.out; simp [setGo] at this
   | succ f =>
   have hgo := HGO.out
   rw [setGo] at hgo
   rw [hYS] at HYL HB HN1 HYR hgo
   clear HGO hYS
   have hkn : ¬ keyT dn YS = [] := by intro k; rw [if_pos k] at hgo; cases hgo
   rw [if_neg hkn] at hgo
   have hlen := HYL.out
   have hpos : 0 < YS.length := by cases YS with
    | nil => exact absurd rfl hne
    | cons _ _ => simp
   have hdN : d < N := by omega
   have hcut := cut8a g o N C d hdN HNC.out
   have p0 : (d : Int) < (N : Int) := by omega
   obtain ⟨CM, hCM⟩ : ∃ m, N - d = m := ⟨_, rfl⟩
   obtain ⟨C1, hC1⟩ : ∃ m, C - d = m := ⟨_, rfl⟩
   obtain ⟨O, hO⟩ : ∃ m, o + d = m := ⟨_, rfl⟩
   rw [hCM] at hlen
   rw [hCM, hC1, hO] at hcut
   rw [hO] at HB
   have HMC := Lib.hid (show CM ≤ C1 by have := HNC.out; omega)
   have HCMX := Lib.hid (show CM ≤ XN ∧ CM = N - d by omega)
   obtain ⟨m, hm⟩ : ∃ m, cutI YS = m := ⟨_, rfl⟩
   have hmle : m ≤ CM := by rw [← hm, ← hlen]; exact cutI_le YS
   have hix := bytes_IndexByte_calls wr (some ⟨g, O, none⟩) C1 YS 44 HYR.out (by decide) (by decide) (HB.out.reads (by omega))
   rw [hlen] at hix
   have hir := idx_range YS 44
   rw [hlen] at hir
   obtain ⟨J, hJ⟩ : ∃ j, idx YS 44 = j := ⟨_, rfl⟩
   rw [hJ] at hix hir
   have hJm : (J = -1 ∧ m = CM) ∨ (0 ≤ J ∧ J = (m : Int)) := by
    unfold cutI at hm
    rw [hJ] at hm
    by_cases hj : J = -1
    ·rw [if_pos hj] at hm; exact .inl ⟨hj, by omega⟩
    ·rw [if_neg hj] at hm; exact .inr ⟨by omega, by omega⟩
   have HIX := Lib.hid hix
   -- the key, cut and trimmed
   obtain ⟨L, hL⟩ : ∃ L, YS.take m = L := ⟨_, rfl⟩
   have HLm := Lib.hid (show L.length = m by rw [← hL, List.length_take]; omega)
   obtain ⟨K0, hK0⟩ : ∃ K, trimR (trimL L) = K := ⟨_, rfl⟩
   have hkey : keyT dn YS = nkd dn K0 := by unfold keyT; rw [hm, hL, hK0]
   have HKEY := Lib.hid hkey
   have HKN := Lib.hid (show K0 ≠ [] by intro k; rw [k] at hkey; exact hkn (hkey.trans (List.eq_nil_of_length_eq_zero (by rw [nkd_length]; rfl))))
   have HBL := Lib.hid (show BrO wr 5 g O L by rw [← hL]; exact HB.out.take m)
   have HYS' := Lib.hid (show BrO wr 5 g (O + (m + 1)) (YS.drop (m + 1)) from HB.out.drop (m + 1))
   have HRL := Lib.hid (show ∀ x ∈ L, 0 ≤ x ∧ x ≤ 255 from fun x k => HYR.out x (by rw [← hL] at k; exact List.mem_of_mem_take k))
   have HRD := Lib.hid (show ∀ x ∈ YS.drop (m + 1), 0 ≤ x ∧ x ≤ 255 from fun x k => HYR.out x (List.mem_of_mem_drop k))
   have HDL := Lib.hid (show (YS.drop (m + 1)).length = CM - (m + 1) by rw [List.length_drop, hlen])
   rw [hm, hkey] at hgo
   obtain ⟨YD, hYD⟩ : ∃ Y, YS.drop (m + 1) = Y := ⟨_, rfl⟩
   rw [hYD] at HYS' HRD HDL hgo
   have HGO2 := Lib.hid hgo
   have HK0 := Lib.hid hK0
   have HN2 := Lib.hid (show n1 + CM ≤ XN by have := HN1.out; omega)
   have hcuth := cut8h (some ⟨g, O, none⟩) CM C1 m hmle HMC.out
   have hmb : m ≤ 1099511627775 := by omega
   have hcb : CM ≤ 1099511627775 := by omega
   have hm0 : 0 < m := by
    rcases Nat.eq_zero_or_pos m with k | k
    ·exfalso
     have := HLm.out
     rw [k] at this
     rw [List.eq_nil_of_length_eq_zero this] at hK0
     exact HKN.out hK0.symm
    ·exact k
   clear hgo hkn hlen hpos hdN hCM hC1 hO hm hix hir hJ hL hK0 hkey hne hYD hnb hxb
   rcases hJm with ⟨rfl, hmc⟩ | ⟨hj0, rfl⟩
   ·subst hmc
    have j0 : decide ((-1 : Int) < 0) = true := rfl
    go_upto_region 9 with (
     go_at_call 64
     refine HIX.out.mono ?_
     rintro e w2 ⟨rfl, hw2⟩
     obtain rfl : wr = w2 := hw2.symm)
    go_loopw [6] (fun kv wi => ∃ (o1 M1 C2 : Nat) (L1 : List Int), kv = .slice (some ⟨g, o1, none⟩) M1 C2 ∧ wi = wr ∧ 0 < M1 ∧ M1 ≤ m ∧ Hid (M1 = L1.length) ∧ Hid (M1 ≤ C2) ∧ Hid (BrO wr 5 g o1 L1) ∧ Hid (trimR (trimL L1) = K0) ∧ Hid (∀ x ∈ L1, 0 ≤ x ∧ x ≤ 255) ∧ Hid (o1 + M1 = O + m)) (fun kv _ => lenV kv)
    case atStart => exact ⟨O, m, C1, L, rfl, rfl, hm0, Nat.le_refl _, Lib.hid HLm.out.symm, Lib.hid (by have := HMC.out; omega), HBL, HK0, HRL, Lib.hid rfl⟩
    case round =>
     obtain ⟨o1, M1, C2, L1, rfl, hwi, hM1, hle1, HM1, HC2, HB1, HT1, HR1, HE1⟩ := hrel
     subst hwi
     cases hl1 : L1 with
     | nil => exfalso; have := HM1.out; rw [hl1] at this; simp at this; omega
     | cons b1 L2 =>
      rw [hl1] at HM1 HB1 HT1 HR1
      clear hl1
      have y0 : wr.cell? ⟨g, o1, none⟩ = some (.int .u8 b1) := HB1.out.cell 0 (by simp)
      have p1 : (0 : Int) < (M1 : Int) := by omega
      by_cases hb1 : b1 = 32
      ·have hK2 : trimR (trimL L2) = K0 := by have := HT1.out; rw [hb1, trimL_sp] at this; exact this
       have hnz : 1 < M1 := by
        have h1 := HM1.out
        rw [List.length_cons] at h1
        rcases Nat.eq_zero_or_pos L2.length with h0 | h0
        ·exfalso
         rw [List.eq_nil_of_length_eq_zero h0] at hK2
         exact HKN.out hK2.symm
        ·omega
       have hcut1 : ∀ W, (Instr.slice 54 (.slice (some ⟨g, o1, none⟩) M1 C2) (some (.int .i64 1)) none none).run Try.prog W = .ok (.slice (some ⟨g, o1 + 1, none⟩) (M1 - 1) (C2 - 1)) W := cut8a g o1 M1 C2 1 hnz HC2.out
       have HBn := Lib.hid (show BrO wr 5 g (o1 + 1) L2 from HB1.out.drop 1)
       have HRn := Lib.hid (show ∀ x ∈ L2, 0 ≤ x ∧ x ≤ 255 from fun x k => HR1.out x (List.mem_cons_of_mem _ k))
       have HKn := Lib.hid hK2
       clear hK2
       subst hb1
       go_wp2
       go_roundw
       case rel => exact ⟨o1 + 1, M1 - 1, C2 - 1, L2, rfl, by first | rfl | trivial, by omega, by omega, Lib.hid (by have := HM1.out; rw [List.length_cons] at this; omega), Lib.hid (by have := HC2.out; omega), HBn, HKn, HRn, Lib.hid (by have := HE1.out; omega)⟩
       case measure => simp [lenV]; omega
      ·have hbe : (b1 == 32) = false := beq_eq_false_iff_ne.2 hb1
       have HT2 := Lib.hid (show trimR (b1 :: L2) = K0 by have := HT1.out; rw [trimL_hd _ _ hb1] at this; exact this)
       obtain ⟨LL, hLL⟩ : ∃ X, b1 :: L2 = X := ⟨_, rfl⟩
       rw [hLL] at HM1 HB1 HT1 HT2 HR1
       clear hLL
       go_upto_region 11 with fail
       go_loopw [6] (fun kv wj => ∃ (M2 : Nat) (L2 : List Int), kv = .slice (some ⟨g, o1, none⟩) M2 C2 ∧ wj = wr ∧ 0 < M2 ∧ M2 ≤ M1 ∧ Hid (M2 = L2.length) ∧ Hid (BrO wr 5 g o1 L2) ∧ Hid (trimR L2 = K0) ∧ Hid (∀ x ∈ L2, 0 ≤ x ∧ x ≤ 255)) (fun kv _ => lenV kv)
       case atStart => exact ⟨M1, LL, rfl, rfl, hM1, Nat.le_refl _, HM1, HB1, HT2, HR1⟩
       case round =>
        clear y0 p1 hbe
        obtain ⟨M2, L2, rfl, hwj, hM2, hle2, HM2, HB2, HK2, HR2⟩ := hrel
        subst hwj
        obtain ⟨k, hk⟩ : ∃ k, M2 = k + 1 := ⟨M2 - 1, by omega⟩
        have hL2n : L2 ≠ [] := by intro k; have := HM2.out; rw [k] at this; simp at this; omega
        obtain ⟨L3, b, hL3⟩ : ∃ L3 b, L2 = L3 ++ [b] := ⟨L2.dropLast, L2.getLast hL2n, (List.dropLast_concat_getLast hL2n).symm⟩
        have hk3 : L3.length = k := by have := HM2.out; rw [hL3, List.length_append] at this; simp at this; omega
        have y0 : wr.cell? ⟨g, o1 + k, none⟩ = some (.int .u8 b) := by
         have hkl : k < L2.length := by have := HM2.out; omega
         have hd : L2.getD k 0 = b := by rw [hL3, List.getD_eq_getElem?_getD, List.getElem?_append_right (by omega), hk3, Nat.sub_self]; rfl
         rw [HB2.out.cell k hkl, hd]
        have p1 : (0 : Int) < (M2 : Int) := by omega
        have p2 : (M2 : Int) - 1 = (k : Int) := by omega
        have p3 : k < M2 := by omega
        have HKK := Lib.hid hk
        have HK3 := Lib.hid hk3
        have HL3 := Lib.hid hL3
        clear hk3 hL3 hL2n hk
        by_cases hb : b = 32
        ·have hcutk := cut8h (some ⟨g, o1, none⟩) M2 C2 k (by omega) (by have := HC2.out; omega)
         have hnz : 0 < k := by
          rcases Nat.eq_zero_or_pos k with h0 | h0
          ·exfalso
           have := HK2.out
           rw [HL3.out, show L3 = [] from List.eq_nil_of_length_eq_zero (by rw [HK3.out]; exact h0), hb, trimR_sp] at this
           exact HKN.out this.symm
          ·exact h0
         have HB3 := Lib.hid (show BrO wr 5 g o1 L3 by have := HB2.out.take L3.length; rw [HL3.out, List.take_left'] at this; exact this; rfl)
         have HK4 := Lib.hid (show trimR L3 = K0 by have := HK2.out; rw [HL3.out, hb, trimR_sp] at this; exact this)
         have HR3 := Lib.hid (show ∀ x ∈ L3, 0 ≤ x ∧ x ≤ 255 from fun x hx => HR2.out x (by rw [HL3.out]; exact List.mem_append_left _ hx))
         subst hb
         go_wp2
         go_roundw
         case rel => exact ⟨k, L3, rfl, by first | rfl | trivial, hnz, by omega, Lib.hid HK3.out.symm, HB3, HK4, HR3⟩
         case measure => simp [lenV]; omega
        ·have hbe : (b == 32) = false := beq_eq_false_iff_ne.2 hb
         have HKL := Lib.hid (show K0 = L2 by have := HK2.out; rw [HL3.out, trimR_hd _ _ hb, ← HL3.out] at this; exact this.symm)
         obtain ⟨l1, V1, S1, hT, hacc, hst, hgl⟩ := HM.out
         obtain ⟨x4, _⟩ := hT.c4
         have HT := Lib.hid hT
         have HACC := Lib.hid hacc
         have HST := Lib.hid hst
         have HGL := Lib.hid hgl
         clear hT hacc hst hgl
         go_upto_region 14 with (
          go_at_call 60
          refine (nhkd_calls wr g o1 M2 C2 L2 dn HM2.out.symm HR2.out (by omega) HB2.out).mono ?_
          rintro e w3 ⟨rfl, hb3, ho3⟩
          have st3 := ho3.stp l1
          rw [HGL.out] at st3
          have hT3 := HT.out.keep st3 (fun lab e => by rw [e]; exact HZ.out)
          have hys3 := HYS'.out.apart ho3 (by have := HE1.out; omega)
          have HT3 := Lib.hid hT3
          have HB3 := Lib.hid hb3
          have HY3 := Lib.hid hys3
          have HO3 := Lib.hid st3
          clear hT3 hb3 hys3 ho3 x4 st3)
         have hnl : (nkd dn L2).length = M2 := by rw [nkd_length]; exact HM2.out.symm
         have hrd := HB3.out.reads (by rw [hnl]; omega)
         have hsrc : Src (Zn (q + 3)) l1 w3 (some ⟨g, o1, none⟩) (nkd dn L2).length (nkd dn L2) := Src.of_read hrd (fun a ha => by
          injection ha with ha; subst ha
          refine ⟨HB3.out.lt, ?_⟩
          show ¬ Zn (q + 3) (l1 g)
          rw [HGL.out]
          exact fun k => HZ.out (.inr (.inr (.inr k))))
         have hadd := addN_says (V := V1) hnl (tAddN_calls l1 w3 q p n1 V1 kv vv S1 kx vx dn HT3.out (by have := HN2.out; have := HXL.out; omega) (some ⟨g, o1, none⟩) C2 (nkd dn L2) (by rw [hnl]; exact hM2) (by rw [hnl]; omega) (by rw [hnl]; have := HC2.out; omega) hsrc)
         have hgl3 : g < w3.heap.size := HB3.out.lt
         have HADD := Lib.hid hadd
         have HGL3 := Lib.hid hgl3
         clear hnl hrd hsrc hadd hgl3
         go_wp2_with (
          go_at_call 59
          refine HADD.out.mono ?_
          rintro e w4 ⟨l2, V2, n2, S2, ev2, rfl, k1, k2, k3, k4, k5⟩
          have G2 := Lib.hid ((k3.lab g HGL3.out).trans HGL.out)
          have Y4 := Lib.hid (HY3.out.same (k3.block g HGL3.out (by rw [HGL.out]; exact HZ.out)))
          have K1 := Lib.hid k1
          have K2 := Lib.hid k2
          have K3 := Lib.hid k3
          have K4 := Lib.hid k4
          have K5 := Lib.hid k5
          clear k1 k2 k3 k4 k5)
         go_roundw
         case rel =>
          have hgo := HGO2.out
          rw [HKL.out] at hgo
          refine ⟨O, m, C1, m + 1, n2, f, (m : Int), YD, _, _, rfl, rfl, Lib.hid (by omega), HMC, HDL, Y4, Lib.hid hgo, K4, Lib.hid ⟨l2, V2, S2, K1.out, ?_, (HST.out.trans (HO3.out.mono (fun _ e => .inr e))).trans (K3.out.mono (fun _ e => .inl e)), G2.out⟩, Lib.hid (by have := K2.out; have := HN2.out; have := HDL.out; omega), HRD, Lib.hid ⟨HCMX.out.1, by omega⟩⟩
          rw [K5.out, HACC.out]
         case measure =>
          have := HI.out
          have := HCMX.out
          simp [lenV, intOf]
          omega
   ·have j0 : decide ((m : Int) < 0) = false := decide_eq_false (by omega)
    clear hj0
    go_upto_region 9 with (
     go_at_call 64
     refine HIX.out.mono ?_
     rintro e w2 ⟨rfl, hw2⟩
     obtain rfl : wr = w2 := hw2.symm)
    go_loopw [6] (fun kv wi => ∃ (o1 M1 C2 : Nat) (L1 : List Int), kv = .slice (some ⟨g, o1, none⟩) M1 C2 ∧ wi = wr ∧ 0 < M1 ∧ M1 ≤ m ∧ Hid (M1 = L1.length) ∧ Hid (M1 ≤ C2) ∧ Hid (BrO wr 5 g o1 L1) ∧ Hid (trimR (trimL L1) = K0) ∧ Hid (∀ x ∈ L1, 0 ≤ x ∧ x ≤ 255) ∧ Hid (o1 + M1 = O + m)) (fun kv _ => lenV kv)
    case atStart => exact ⟨O, m, C1, L, rfl, rfl, hm0, Nat.le_refl _, Lib.hid HLm.out.symm, Lib.hid (by have := HMC.out; omega), HBL, HK0, HRL, Lib.hid rfl⟩
    case round =>
     obtain ⟨o1, M1, C2, L1, rfl, hwi, hM1, hle1, HM1, HC2, HB1, HT1, HR1, HE1⟩ := hrel
     subst hwi
     cases hl1 : L1 with
     | nil => exfalso; have := HM1.out; rw [hl1] at this; simp at this; omega
     | cons b1 L2 =>
      rw [hl1] at HM1 HB1 HT1 HR1
      clear hl1
      have y0 : wr.cell? ⟨g, o1, none⟩ = some (.int .u8 b1) := HB1.out.cell 0 (by simp)
      have p1 : (0 : Int) < (M1 : Int) := by omega
      by_cases hb1 : b1 = 32
      ·have hK2 : trimR (trimL L2) = K0 := by have := HT1.out; rw [hb1, trimL_sp] at this; exact this
       have hnz : 1 < M1 := by
        have h1 := HM1.out
        rw [List.length_cons] at h1
        rcases Nat.eq_zero_or_pos L2.length with h0 | h0
        ·exfalso
         rw [List.eq_nil_of_length_eq_zero h0] at hK2
         exact HKN.out hK2.symm
        ·omega
       have hcut1 : ∀ W, (Instr.slice 54 (.slice (some ⟨g, o1, none⟩) M1 C2) (some (.int .i64 1)) none none).run Try.prog W = .ok (.slice (some ⟨g, o1 + 1, none⟩) (M1 - 1) (C2 - 1)) W := cut8a g o1 M1 C2 1 hnz HC2.out
       have HBn := Lib.hid (show BrO wr 5 g (o1 + 1) L2 from HB1.out.drop 1)
       have HRn := Lib.hid (show ∀ x ∈ L2, 0 ≤ x ∧ x ≤ 255 from fun x k => HR1.out x (List.mem_cons_of_mem _ k))
       have HKn := Lib.hid hK2
       clear hK2
       subst hb1
       go_wp2
       go_roundw
       case rel => exact ⟨o1 + 1, M1 - 1, C2 - 1, L2, rfl, by first | rfl | trivial, by omega, by omega, Lib.hid (by have := HM1.out; rw [List.length_cons] at this; omega), Lib.hid (by have := HC2.out; omega), HBn, HKn, HRn, Lib.hid (by have := HE1.out; omega)⟩
       case measure => simp [lenV]; omega
      ·have hbe : (b1 == 32) = false := beq_eq_false_iff_ne.2 hb1
       have HT2 := Lib.hid (show trimR (b1 :: L2) = K0 by have := HT1.out; rw [trimL_hd _ _ hb1] at this; exact this)
       obtain ⟨LL, hLL⟩ : ∃ X, b1 :: L2 = X := ⟨_, rfl⟩
       rw [hLL] at HM1 HB1 HT1 HT2 HR1
       clear hLL
       go_upto_region 11 with fail
       go_loopw [6] (fun kv wj => ∃ (M2 : Nat) (L2 : List Int), kv = .slice (some ⟨g, o1, none⟩) M2 C2 ∧ wj = wr ∧ 0 < M2 ∧ M2 ≤ M1 ∧ Hid (M2 = L2.length) ∧ Hid (BrO wr 5 g o1 L2) ∧ Hid (trimR L2 = K0) ∧ Hid (∀ x ∈ L2, 0 ≤ x ∧ x ≤ 255)) (fun kv _ => lenV kv)
       case atStart => exact ⟨M1, LL, rfl, rfl, hM1, Nat.le_refl _, HM1, HB1, HT2, HR1⟩
       case round =>
        clear y0 p1 hbe
        obtain ⟨M2, L2, rfl, hwj, hM2, hle2, HM2, HB2, HK2, HR2⟩ := hrel
        subst hwj
        obtain ⟨k, hk⟩ : ∃ k, M2 = k + 1 := ⟨M2 - 1, by omega⟩
        have hL2n : L2 ≠ [] := by intro k; have := HM2.out; rw [k] at this; simp at this; omega
        obtain ⟨L3, b, hL3⟩ : ∃ L3 b, L2 = L3 ++ [b] := ⟨L2.dropLast, L2.getLast hL2n, (List.dropLast_concat_getLast hL2n).symm⟩
        have hk3 : L3.length = k := by have := HM2.out; rw [hL3, List.length_append] at this; simp at this; omega
        have y0 : wr.cell? ⟨g, o1 + k, none⟩ = some (.int .u8 b) := by
         have hkl : k < L2.length := by have := HM2.out; omega
         have hd : L2.getD k 0 = b := by rw [hL3, List.getD_eq_getElem?_getD, List.getElem?_append_right (by omega), hk3, Nat.sub_self]; rfl
         rw [HB2.out.cell k hkl, hd]
        have p1 : (0 : Int) < (M2 : Int) := by omega
        have p2 : (M2 : Int) - 1 = (k : Int) := by omega
        have p3 : k < M2 := by omega
        have HKK := Lib.hid hk
        have HK3 := Lib.hid hk3
        have HL3 := Lib.hid hL3
        clear hk3 hL3 hL2n hk
        by_cases hb : b = 32
        ·have hcutk := cut8h (some ⟨g, o1, none⟩) M2 C2 k (by omega) (by have := HC2.out; omega)
         have hnz : 0 < k := by
          rcases Nat.eq_zero_or_pos k with h0 | h0
          ·exfalso
           have := HK2.out
           rw [HL3.out, show L3 = [] from List.eq_nil_of_length_eq_zero (by rw [HK3.out]; exact h0), hb, trimR_sp] at this
           exact HKN.out this.symm
          ·exact h0
         have HB3 := Lib.hid (show BrO wr 5 g o1 L3 by have := HB2.out.take L3.length; rw [HL3.out, List.take_left'] at this; exact this; rfl)
         have HK4 := Lib.hid (show trimR L3 = K0 by have := HK2.out; rw [HL3.out, hb, trimR_sp] at this; exact this)
         have HR3 := Lib.hid (show ∀ x ∈ L3, 0 ≤ x ∧ x ≤ 255 from fun x hx => HR2.out x (by rw [HL3.out]; exact List.mem_append_left _ hx))
         subst hb
         go_wp2
         go_roundw
         case rel => exact ⟨k, L3, rfl, by first | rfl | trivial, hnz, by omega, Lib.hid HK3.out.symm, HB3, HK4, HR3⟩
         case measure => simp [lenV]; omega
        ·have hbe : (b == 32) = false := beq_eq_false_iff_ne.2 hb
         have HKL := Lib.hid (show K0 = L2 by have := HK2.out; rw [HL3.out, trimR_hd _ _ hb, ← HL3.out] at this; exact this.symm)
         obtain ⟨l1, V1, S1, hT, hacc, hst, hgl⟩ := HM.out
         obtain ⟨x4, _⟩ := hT.c4
         have HT := Lib.hid hT
         have HACC := Lib.hid hacc
         have HST := Lib.hid hst
         have HGL := Lib.hid hgl
         clear hT hacc hst hgl
         go_upto_region 14 with (
          go_at_call 60
          refine (nhkd_calls wr g o1 M2 C2 L2 dn HM2.out.symm HR2.out (by omega) HB2.out).mono ?_
          rintro e w3 ⟨rfl, hb3, ho3⟩
          have st3 := ho3.stp l1
          rw [HGL.out] at st3
          have hT3 := HT.out.keep st3 (fun lab e => by rw [e]; exact HZ.out)
          have hys3 := HYS'.out.apart ho3 (by have := HE1.out; omega)
          have HT3 := Lib.hid hT3
          have HB3 := Lib.hid hb3
          have HY3 := Lib.hid hys3
          have HO3 := Lib.hid st3
          clear hT3 hb3 hys3 ho3 x4 st3)
         have hnl : (nkd dn L2).length = M2 := by rw [nkd_length]; exact HM2.out.symm
         have hrd := HB3.out.reads (by rw [hnl]; omega)
         have hsrc : Src (Zn (q + 3)) l1 w3 (some ⟨g, o1, none⟩) (nkd dn L2).length (nkd dn L2) := Src.of_read hrd (fun a ha => by
          injection ha with ha; subst ha
          refine ⟨HB3.out.lt, ?_⟩
          show ¬ Zn (q + 3) (l1 g)
          rw [HGL.out]
          exact fun k => HZ.out (.inr (.inr (.inr k))))
         have hadd := addN_says (V := V1) hnl (tAddN_calls l1 w3 q p n1 V1 kv vv S1 kx vx dn HT3.out (by have := HN2.out; have := HXL.out; omega) (some ⟨g, o1, none⟩) C2 (nkd dn L2) (by rw [hnl]; exact hM2) (by rw [hnl]; omega) (by rw [hnl]; have := HC2.out; omega) hsrc)
         have hgl3 : g < w3.heap.size := HB3.out.lt
         have HADD := Lib.hid hadd
         have HGL3 := Lib.hid hgl3
         clear hnl hrd hsrc hadd hgl3
         go_wp2_with (
          go_at_call 59
          refine HADD.out.mono ?_
          rintro e w4 ⟨l2, V2, n2, S2, ev2, rfl, k1, k2, k3, k4, k5⟩
          have G2 := Lib.hid ((k3.lab g HGL3.out).trans HGL.out)
          have Y4 := Lib.hid (HY3.out.same (k3.block g HGL3.out (by rw [HGL.out]; exact HZ.out)))
          have K1 := Lib.hid k1
          have K2 := Lib.hid k2
          have K3 := Lib.hid k3
          have K4 := Lib.hid k4
          have K5 := Lib.hid k5
          clear k1 k2 k3 k4 k5)
         go_roundw
         case rel =>
          have hgo := HGO2.out
          rw [HKL.out] at hgo
          refine ⟨O, CM, C1, m + 1, n2, f, (m : Int), YD, _, _, rfl, rfl, Lib.hid (by omega), HMC, HDL, Y4, Lib.hid hgo, K4, Lib.hid ⟨l2, V2, S2, K1.out, ?_, (HST.out.trans (HO3.out.mono (fun _ e => .inr e))).trans (K3.out.mono (fun _ e => .inl e)), G2.out⟩, Lib.hid (by have := K2.out; have := HN2.out; have := HDL.out; omega), HRD, Lib.hid ⟨HCMX.out.1, by omega⟩⟩
          rw [K5.out, HACC.out]
         case measure =>
          have := HI.out
          have := HCMX.out
          simp [lenV, intOf]
          omega
open Go.Proofs.Ytoimkmoalmmooaa.PrX
theorem Stp.less {q zl : Nat} {l l1 : Nat → Nat} {w w1 : World} (h : Stp (fun lab => Tz q lab ∨ lab = zl) l l1 w w1) (hf : ∀ b, b < w.heap.size → l b ≠ zl) : Stp (Tz q) l l1 w w1 :=
  ⟨h.os, h.tape, h.output, h.size, h.lab, fun b hb k => h.block b hb (fun e => e.elim k (hf b hb))⟩
set_option maxHeartbeats 4000000 in
set_option maxRecDepth 100000 in
theorem trailer_names_true (l : Nat → Nat) (w : World) (q p n : Nat) (V kv vv : Value) (S : List Slot) (kx vx : List Int) (dn : Bool) (h : TrC l w q p V n S kv kx vv vx dn) (hn : n ≤ 1099511627775) (s : S28) (hvs : s.f2.size ≤ 1099511627775) (f0 : Nat) (R : List KVx) (hset : setGo dn f0 (ns s.f2) [] false = some (R, true)) (hdo : s.f0 = 4) :
    Calls Try.prog 26 #[.pointer (some ⟨p, 0, none⟩), .agg #[.int .i64 s.f0, .string s.f1, .string s.f2, .int .i64 s.f3, .int .i64 s.f4]] w fun e w' => StepT l w q p (n + s.f2.size) (dn) (⟨#[]⟩) (false) ([]) (R) e w' := by
  have st0 := Stp.of_below (W3_below w s) (fun _ => False) l 0
  have hT := h.keep st0 (fun _ k => k.elim)
  have y0 := W3_0 w s
  have y1 := W3_1 w s
  have y2 := W3_2 w s
  have hsz := W3_size w s
  obtain ⟨W, hW⟩ : ∃ W, W3 w s = W := ⟨_, rfl⟩
  have hW' := hW
  rw [hW] at hT st0 y0 y1 y2 hsz
  unfold W3 at hW'
  have hcv1 := Lib.run_convert_string_bytes (P := Try.prog) W 9 54 5 s.f2 Try.underlying9 Try.underlying54 Try.underlying5
  have hbl1 := conv_below W 5 s.f2
  have br1 := Br.conv W 5 s.f2
  have sz1 := Lib.bytesWorld_size W 5 s.f2
  have cap1 := grownCap_ge W s.f2.size 0 5
  obtain ⟨cc1, hcc1⟩ : ∃ c, grownCap W s.f2.size 0 5 = c := ⟨_, rfl⟩
  rw [hcc1] at hcv1 cap1
  obtain ⟨U1, hU1⟩ : ∃ X, Lib.bytesWorld W 5 s.f2 = X := ⟨_, rfl⟩
  rw [hU1] at hcv1 hbl1 br1 sz1
  obtain ⟨g1, hg1⟩ : ∃ g, W.heap.size = g := ⟨_, rfl⟩
  rw [hg1] at hcv1 br1 sz1
  obtain ⟨zl, z1, z2, z3⟩ := fresh_label (ext l w.heap.size 0) W.heap.size
  have hz : ¬ Tz q zl := by have := hT.1; have := hT.2.1; unfold Tz; omega
  have st1 := Stp.of_below hbl1 (fun lab => Tz q lab ∨ lab = zl) (ext l w.heap.size 0) zl
  have hT1 := hT.keep (Stp.of_below hbl1 (fun _ => False) (ext l w.heap.size 0) zl) (fun _ k => k.elim)
  rw [hg1] at st1 hT1
  have hg := tSetT_calls (ext (ext l w.heap.size 0) g1 zl) U1 q p n V kv vv S kx vx dn hT1 zl g1 cc1 hz (ext_new _ (Nat.le_refl _)) (ns s.f2) (fun x k => ns_range s.f2 x k) (Br.bro br1) (by rw [ns_length]; exact cap1) (by rw [ns_length]; exact hvs) f0 R true hset
  rw [ns_length] at hg
  have HG := Lib.hid hg
  have ST1 := Lib.hid st1
  have HF1 := Lib.hid z1
  rw [← hW'] at hcv1
  clear hg hset hvs st1 hT1 br1 sz1 hbl1 cap1 hcc1 hU1 hg1 z1 z2 z3 hz
  have HT := Lib.hid hT
  have HS0 := Lib.hid st0
  have Y1 := Lib.hid y1
  have Y2 := Lib.hid y2
  have c0 : W.cell? ⟨w.heap.size, 0, none⟩ = some (.int .i64 s.f0) := by rw [cell_of_row W _ 0 _ _ (0, 0) y0]; rfl
  have c1 : W.cell? ⟨w.heap.size, 1, none⟩ = some (.string s.f1) := by rw [cell_of_row W _ 1 _ _ (0, 0) y0]; rfl
  have c2 : W.cell? ⟨w.heap.size, 2, none⟩ = some (.string s.f2) := by rw [cell_of_row W _ 2 _ _ (0, 0) y0]; rfl
  rw [hdo] at c0
  have HW := Lib.hid hW'
  have HSZ := Lib.hid hsz
  rw [← hW'] at c0 c1 c2
  have hmf : ∀ (fn : Fn) (first cap : Array Value) (w : World), (Instr.makeFunc fn first cap).run Try.prog w = .ok (.func fn first cap) w := fun _ _ _ _ => rfl
  have HDO := Lib.hid hdo
  clear h hT y0 y1 y2 st0 hW hW' hsz hdo
  go_enter_defers Try.func26, Try.ntmps26
  go_wp2_with (first
    | (go_at_call 45
       refine HG.out.mono ?_
       rintro e w4 ⟨ev, n1, rfl, hev, ⟨l4, V1, S1, hT4, hkv, hst, _⟩, hle⟩
       have st4 := (ST1.out.trans hst).less HF1.out
       have HLE := Lib.hid hle
       have HKV := Lib.hid hkv
       clear hle hkv hst
       obtain ⟨u, x, rfl⟩ : ∃ u x, ev = .iface u x := by rcases hev with ⟨_, h⟩ | ⟨h, _⟩ <;> first | exact h | cases h
       
       have lt1 : w.heap.size + 1 < W.heap.size := by rw [HSZ.out]; omega
       have lt2 : w.heap.size + 2 < W.heap.size := by rw [HSZ.out]; omega
       have lb0 : ¬ Tz q 0 := by have := HT.out.1; have := HT.out.2.1; unfold Tz; omega
       have r1 := (st4.block (w.heap.size + 1) lt1 (by rw [ext_new l (by omega)]; exact lb0)).trans Y1.out
       have r2 := (st4.block (w.heap.size + 2) lt2 (by rw [ext_new l (by omega)]; exact lb0)).trans Y2.out
       have lb1 := (st4.lab (w.heap.size + 1) lt1).trans (ext_new l (by omega))
       have lb2 := (st4.lab (w.heap.size + 2) lt2).trans (ext_new l (by omega))
       have a0 : w4.cell? ⟨w.heap.size + 1, 0, none⟩ = some (.string ⟨#[]⟩) := by rw [cell_of_row w4 _ 0 _ _ (0, 0) r1]; rfl
       have a1 : w4.cell? ⟨w.heap.size + 1, 1, none⟩ = some (.bool false) := by rw [cell_of_row w4 _ 1 _ _ (0, 0) r1]; rfl
       have a2 : w4.cell? ⟨w.heap.size + 1, 2, none⟩ = some (.int .i64 0) := by rw [cell_of_row w4 _ 2 _ _ (0, 0) r1]; rfl
       have a3 : w4.cell? ⟨w.heap.size + 1, 3, none⟩ = some (.slice none 0 0) := by rw [cell_of_row w4 _ 3 _ _ (0, 0) r1]; rfl
       have a4 : w4.cell? ⟨w.heap.size + 1, 4, none⟩ = some (.slice none 0 0) := by rw [cell_of_row w4 _ 4 _ _ (0, 0) r1]; rfl
       have b0 : w4.cell? ⟨w.heap.size + 2, 0, none⟩ = some (.bool false) := by rw [cell_of_row w4 _ 0 _ _ (0, 0) r2]; rfl
       have e0 := frozen_of_row w4 (w.heap.size + 1) 0 _ _ r1
       have e1 := frozen_of_row w4 (w.heap.size + 1) 1 _ _ r1
       have e2 := frozen_of_row w4 (w.heap.size + 1) 2 _ _ r1
       have e3 := frozen_of_row w4 (w.heap.size + 1) 3 _ _ r1
       have e4 := frozen_of_row w4 (w.heap.size + 1) 4 _ _ r1
       have e5 := frozen_of_row w4 (w.heap.size + 2) 0 _ _ r2
       have R1 := Lib.hid r1
       have R2 := Lib.hid r2
       have HT4 := Lib.hid hT4
       have ST4 := Lib.hid st4
       have LB1 := Lib.hid lb1
       have LB2 := Lib.hid lb2
       clear lt1 lt2 lb0 r1 r2 hT4 st4 lb1 lb2))
  refine leaves_cons (f := 40) (args := #[.pointer (some ⟨w.heap.size + 1, 0, none⟩), .pointer (some ⟨w.heap.size + 1 + 1, 0, none⟩)]) (by simp) (by simp [go_sem]) ?_
  refine (trailer_idle ⟨w.heap.size + 1, 0, none⟩ ⟨w.heap.size + 1 + 1, 0, none⟩ _).mono ?_
  rintro e u' w'' ⟨rfl, rfl, rfl⟩
  have r1' := heap_setCell_same w4 (w.heap.size + 1) 1 _ 32 (.bool false) R1.out
  have r2' : (w4.setCell ⟨w.heap.size + 1, 1, none⟩ (.bool false)).heap[w.heap.size + 1 + 1]? = some (.cells #[.bool false] 4 (0, 0)) := by
    rw [Below.heap_setCell _ _ _ _ (show w.heap.size + 1 + 1 ≠ w.heap.size + 1 by omega)]; exact R2.out
  obtain ⟨f1, f2⟩ := after5 (a0 := .string ⟨#[]⟩) (a1 := .bool false) (a2 := .int .i64 0) (a3 := .slice none 0 0) (a4 := .slice none 0 0) r1' r2' (by omega)
  have HT5 := Lib.hid (((((((HT4.out.setFar (a := ⟨w.heap.size + 1, 1, none⟩) LB1.out (.bool false)).setFar (a := ⟨w.heap.size + 1, 0, none⟩) LB1.out (.string ⟨#[]⟩)).setFar (a := ⟨w.heap.size + 1, 1, none⟩) LB1.out (.bool false)).setFar (a := ⟨w.heap.size + 1, 2, none⟩) LB1.out (.int .i64 0)).setFar (a := ⟨w.heap.size + 1, 3, none⟩) LB1.out (.slice none 0 0)).setFar (a := ⟨w.heap.size + 1, 4, none⟩) LB1.out (.slice none 0 0)).setFar (a := ⟨w.heap.size + 1 + 1, 0, none⟩) LB2.out (.bool true))
  have HS5 := Lib.hid (((((((((HS0.out.mono (fun _ k => k.elim) : Stp (Tz q) _ _ _ _).trans ST4.out).setNew (a := ⟨w.heap.size + 1, 1, none⟩) (by show _ ≤ w.heap.size + 1; omega) (.bool false)).setNew (a := ⟨w.heap.size + 1, 0, none⟩) (by show _ ≤ w.heap.size + 1; omega) (.string ⟨#[]⟩)).setNew (a := ⟨w.heap.size + 1, 1, none⟩) (by show _ ≤ w.heap.size + 1; omega) (.bool false)).setNew (a := ⟨w.heap.size + 1, 2, none⟩) (by show _ ≤ w.heap.size + 1; omega) (.int .i64 0)).setNew (a := ⟨w.heap.size + 1, 3, none⟩) (by show _ ≤ w.heap.size + 1; omega) (.slice none 0 0)).setNew (a := ⟨w.heap.size + 1, 4, none⟩) (by show _ ≤ w.heap.size + 1; omega) (.slice none 0 0)).setNew (a := ⟨w.heap.size + 1 + 1, 0, none⟩) (by show _ ≤ w.heap.size + 1 + 1; omega) (.bool true))
  clear r1' r2' a0 a1 a2 a3 a4 b0 e0 e1 e2 e3 e4 e5
  generalize (((((((w4.setCell ⟨w.heap.size + 1, 1, none⟩ (.bool false)).setCell ⟨w.heap.size + 1, 0, none⟩ (.string ⟨#[]⟩)).setCell ⟨w.heap.size + 1, 1, none⟩ (.bool false)).setCell ⟨w.heap.size + 1, 2, none⟩ (.int .i64 0)).setCell ⟨w.heap.size + 1, 3, none⟩ (.slice none 0 0)).setCell ⟨w.heap.size + 1, 4, none⟩ (.slice none 0 0)).setCell ⟨w.heap.size + 1 + 1, 0, none⟩ (.bool true)) = w5 at *
  have g0 : w5.cell? ⟨w.heap.size + 1, 0, none⟩ = some (.string ⟨#[]⟩) := by rw [cell_of_row w5 _ 0 _ _ (0, 0) f1]; rfl
  have g1 : w5.cell? ⟨w.heap.size + 1, 1, none⟩ = some (.bool false) := by rw [cell_of_row w5 _ 1 _ _ (0, 0) f1]; rfl
  have g2 : w5.cell? ⟨w.heap.size + 1, 2, none⟩ = some (.int .i64 0) := by rw [cell_of_row w5 _ 2 _ _ (0, 0) f1]; rfl
  have g3 : w5.cell? ⟨w.heap.size + 1, 3, none⟩ = some (.slice none 0 0) := by rw [cell_of_row w5 _ 3 _ _ (0, 0) f1]; rfl
  have g4 : w5.cell? ⟨w.heap.size + 1, 4, none⟩ = some (.slice none 0 0) := by rw [cell_of_row w5 _ 4 _ _ (0, 0) f1]; rfl
  have g5 : w5.cell? ⟨w.heap.size + 1 + 1, 0, none⟩ = some (.bool true) := by rw [cell_of_row w5 _ 0 _ _ (0, 0) f2]; rfl
  simp [Leaves, settle, results, Try.results26, go_sem, g0, g1, g2, g3, g4, g5]
  exact ⟨_, _, _, _, _, _, _, _, _, rfl, HT5.out, by have := HLE.out; omega, HKV.out, Kd.R_nil _ _ _ _ _, HS5.out⟩
set_option maxHeartbeats 4000000 in
set_option maxRecDepth 100000 in
theorem trailer_names_false (l : Nat → Nat) (w : World) (q p n : Nat) (V kv vv : Value) (S : List Slot) (kx vx : List Int) (dn : Bool) (h : TrC l w q p V n S kv kx vv vx dn) (hn : n ≤ 1099511627775) (s : S28) (hvs : s.f2.size ≤ 1099511627775) (f0 : Nat) (R : List KVx) (hset : setGo dn f0 (ns s.f2) [] false = some (R, false)) (hdo : s.f0 = 4) :
    Calls Try.prog 26 #[.pointer (some ⟨p, 0, none⟩), .agg #[.int .i64 s.f0, .string s.f1, .string s.f2, .int .i64 s.f3, .int .i64 s.f4]] w fun e w' => StepT l w q p (n + s.f2.size) (dn) (⟨#[]⟩) (true) ([]) (R) e w' := by
  have st0 := Stp.of_below (W3_below w s) (fun _ => False) l 0
  have hT := h.keep st0 (fun _ k => k.elim)
  have y0 := W3_0 w s
  have y1 := W3_1 w s
  have y2 := W3_2 w s
  have hsz := W3_size w s
  obtain ⟨W, hW⟩ : ∃ W, W3 w s = W := ⟨_, rfl⟩
  have hW' := hW
  rw [hW] at hT st0 y0 y1 y2 hsz
  unfold W3 at hW'
  have hcv1 := Lib.run_convert_string_bytes (P := Try.prog) W 9 54 5 s.f2 Try.underlying9 Try.underlying54 Try.underlying5
  have hbl1 := conv_below W 5 s.f2
  have br1 := Br.conv W 5 s.f2
  have sz1 := Lib.bytesWorld_size W 5 s.f2
  have cap1 := grownCap_ge W s.f2.size 0 5
  obtain ⟨cc1, hcc1⟩ : ∃ c, grownCap W s.f2.size 0 5 = c := ⟨_, rfl⟩
  rw [hcc1] at hcv1 cap1
  obtain ⟨U1, hU1⟩ : ∃ X, Lib.bytesWorld W 5 s.f2 = X := ⟨_, rfl⟩
  rw [hU1] at hcv1 hbl1 br1 sz1
  obtain ⟨g1, hg1⟩ : ∃ g, W.heap.size = g := ⟨_, rfl⟩
  rw [hg1] at hcv1 br1 sz1
  obtain ⟨zl, z1, z2, z3⟩ := fresh_label (ext l w.heap.size 0) W.heap.size
  have hz : ¬ Tz q zl := by have := hT.1; have := hT.2.1; unfold Tz; omega
  have st1 := Stp.of_below hbl1 (fun lab => Tz q lab ∨ lab = zl) (ext l w.heap.size 0) zl
  have hT1 := hT.keep (Stp.of_below hbl1 (fun _ => False) (ext l w.heap.size 0) zl) (fun _ k => k.elim)
  rw [hg1] at st1 hT1
  have hg := tSetT_calls (ext (ext l w.heap.size 0) g1 zl) U1 q p n V kv vv S kx vx dn hT1 zl g1 cc1 hz (ext_new _ (Nat.le_refl _)) (ns s.f2) (fun x k => ns_range s.f2 x k) (Br.bro br1) (by rw [ns_length]; exact cap1) (by rw [ns_length]; exact hvs) f0 R false hset
  rw [ns_length] at hg
  have HG := Lib.hid hg
  have ST1 := Lib.hid st1
  have HF1 := Lib.hid z1
  rw [← hW'] at hcv1
  clear hg hset hvs st1 hT1 br1 sz1 hbl1 cap1 hcc1 hU1 hg1 z1 z2 z3 hz
  have HT := Lib.hid hT
  have HS0 := Lib.hid st0
  have Y1 := Lib.hid y1
  have Y2 := Lib.hid y2
  have c0 : W.cell? ⟨w.heap.size, 0, none⟩ = some (.int .i64 s.f0) := by rw [cell_of_row W _ 0 _ _ (0, 0) y0]; rfl
  have c1 : W.cell? ⟨w.heap.size, 1, none⟩ = some (.string s.f1) := by rw [cell_of_row W _ 1 _ _ (0, 0) y0]; rfl
  have c2 : W.cell? ⟨w.heap.size, 2, none⟩ = some (.string s.f2) := by rw [cell_of_row W _ 2 _ _ (0, 0) y0]; rfl
  rw [hdo] at c0
  have HW := Lib.hid hW'
  have HSZ := Lib.hid hsz
  rw [← hW'] at c0 c1 c2
  have hmf : ∀ (fn : Fn) (first cap : Array Value) (w : World), (Instr.makeFunc fn first cap).run Try.prog w = .ok (.func fn first cap) w := fun _ _ _ _ => rfl
  have HDO := Lib.hid hdo
  clear h hT y0 y1 y2 st0 hW hW' hsz hdo
  go_enter_defers Try.func26, Try.ntmps26
  go_wp2_with (first
    | (go_at_call 45
       refine HG.out.mono ?_
       rintro e w4 ⟨ev, n1, rfl, hev, ⟨l4, V1, S1, hT4, hkv, hst, _⟩, hle⟩
       have st4 := (ST1.out.trans hst).less HF1.out
       have HLE := Lib.hid hle
       have HKV := Lib.hid hkv
       clear hle hkv hst
       obtain rfl : ev = .nilIface := by rcases hev with ⟨h, _⟩ | ⟨_, h⟩ <;> first | exact h | cases h
       
       have lt1 : w.heap.size + 1 < W.heap.size := by rw [HSZ.out]; omega
       have lt2 : w.heap.size + 2 < W.heap.size := by rw [HSZ.out]; omega
       have lb0 : ¬ Tz q 0 := by have := HT.out.1; have := HT.out.2.1; unfold Tz; omega
       have r1 := (st4.block (w.heap.size + 1) lt1 (by rw [ext_new l (by omega)]; exact lb0)).trans Y1.out
       have r2 := (st4.block (w.heap.size + 2) lt2 (by rw [ext_new l (by omega)]; exact lb0)).trans Y2.out
       have lb1 := (st4.lab (w.heap.size + 1) lt1).trans (ext_new l (by omega))
       have lb2 := (st4.lab (w.heap.size + 2) lt2).trans (ext_new l (by omega))
       have a0 : w4.cell? ⟨w.heap.size + 1, 0, none⟩ = some (.string ⟨#[]⟩) := by rw [cell_of_row w4 _ 0 _ _ (0, 0) r1]; rfl
       have a1 : w4.cell? ⟨w.heap.size + 1, 1, none⟩ = some (.bool false) := by rw [cell_of_row w4 _ 1 _ _ (0, 0) r1]; rfl
       have a2 : w4.cell? ⟨w.heap.size + 1, 2, none⟩ = some (.int .i64 0) := by rw [cell_of_row w4 _ 2 _ _ (0, 0) r1]; rfl
       have a3 : w4.cell? ⟨w.heap.size + 1, 3, none⟩ = some (.slice none 0 0) := by rw [cell_of_row w4 _ 3 _ _ (0, 0) r1]; rfl
       have a4 : w4.cell? ⟨w.heap.size + 1, 4, none⟩ = some (.slice none 0 0) := by rw [cell_of_row w4 _ 4 _ _ (0, 0) r1]; rfl
       have b0 : w4.cell? ⟨w.heap.size + 2, 0, none⟩ = some (.bool false) := by rw [cell_of_row w4 _ 0 _ _ (0, 0) r2]; rfl
       have e0 := frozen_of_row w4 (w.heap.size + 1) 0 _ _ r1
       have e1 := frozen_of_row w4 (w.heap.size + 1) 1 _ _ r1
       have e2 := frozen_of_row w4 (w.heap.size + 1) 2 _ _ r1
       have e3 := frozen_of_row w4 (w.heap.size + 1) 3 _ _ r1
       have e4 := frozen_of_row w4 (w.heap.size + 1) 4 _ _ r1
       have e5 := frozen_of_row w4 (w.heap.size + 2) 0 _ _ r2
       have R1 := Lib.hid r1
       have R2 := Lib.hid r2
       have HT4 := Lib.hid hT4
       have ST4 := Lib.hid st4
       have LB1 := Lib.hid lb1
       have LB2 := Lib.hid lb2
       clear lt1 lt2 lb0 r1 r2 hT4 st4 lb1 lb2))
  refine leaves_cons (f := 40) (args := #[.pointer (some ⟨w.heap.size + 1, 0, none⟩), .pointer (some ⟨w.heap.size + 1 + 1, 0, none⟩)]) (by simp) (by simp [go_sem]) ?_
  refine (trailer_idle ⟨w.heap.size + 1, 0, none⟩ ⟨w.heap.size + 1 + 1, 0, none⟩ _).mono ?_
  rintro e u' w'' ⟨rfl, rfl, rfl⟩
  have r1' := heap_setCell_same w4 (w.heap.size + 1) 1 _ 32 (.bool true) R1.out
  have r2' : (w4.setCell ⟨w.heap.size + 1, 1, none⟩ (.bool true)).heap[w.heap.size + 1 + 1]? = some (.cells #[.bool false] 4 (0, 0)) := by
    rw [Below.heap_setCell _ _ _ _ (show w.heap.size + 1 + 1 ≠ w.heap.size + 1 by omega)]; exact R2.out
  obtain ⟨f1, f2⟩ := after5 (a0 := .string ⟨#[]⟩) (a1 := .bool true) (a2 := .int .i64 0) (a3 := .slice none 0 0) (a4 := .slice none 0 0) r1' r2' (by omega)
  have HT5 := Lib.hid (((((((HT4.out.setFar (a := ⟨w.heap.size + 1, 1, none⟩) LB1.out (.bool true)).setFar (a := ⟨w.heap.size + 1, 0, none⟩) LB1.out (.string ⟨#[]⟩)).setFar (a := ⟨w.heap.size + 1, 1, none⟩) LB1.out (.bool true)).setFar (a := ⟨w.heap.size + 1, 2, none⟩) LB1.out (.int .i64 0)).setFar (a := ⟨w.heap.size + 1, 3, none⟩) LB1.out (.slice none 0 0)).setFar (a := ⟨w.heap.size + 1, 4, none⟩) LB1.out (.slice none 0 0)).setFar (a := ⟨w.heap.size + 1 + 1, 0, none⟩) LB2.out (.bool true))
  have HS5 := Lib.hid (((((((((HS0.out.mono (fun _ k => k.elim) : Stp (Tz q) _ _ _ _).trans ST4.out).setNew (a := ⟨w.heap.size + 1, 1, none⟩) (by show _ ≤ w.heap.size + 1; omega) (.bool true)).setNew (a := ⟨w.heap.size + 1, 0, none⟩) (by show _ ≤ w.heap.size + 1; omega) (.string ⟨#[]⟩)).setNew (a := ⟨w.heap.size + 1, 1, none⟩) (by show _ ≤ w.heap.size + 1; omega) (.bool true)).setNew (a := ⟨w.heap.size + 1, 2, none⟩) (by show _ ≤ w.heap.size + 1; omega) (.int .i64 0)).setNew (a := ⟨w.heap.size + 1, 3, none⟩) (by show _ ≤ w.heap.size + 1; omega) (.slice none 0 0)).setNew (a := ⟨w.heap.size + 1, 4, none⟩) (by show _ ≤ w.heap.size + 1; omega) (.slice none 0 0)).setNew (a := ⟨w.heap.size + 1 + 1, 0, none⟩) (by show _ ≤ w.heap.size + 1 + 1; omega) (.bool true))
  clear r1' r2' a0 a1 a2 a3 a4 b0 e0 e1 e2 e3 e4 e5
  generalize (((((((w4.setCell ⟨w.heap.size + 1, 1, none⟩ (.bool true)).setCell ⟨w.heap.size + 1, 0, none⟩ (.string ⟨#[]⟩)).setCell ⟨w.heap.size + 1, 1, none⟩ (.bool true)).setCell ⟨w.heap.size + 1, 2, none⟩ (.int .i64 0)).setCell ⟨w.heap.size + 1, 3, none⟩ (.slice none 0 0)).setCell ⟨w.heap.size + 1, 4, none⟩ (.slice none 0 0)).setCell ⟨w.heap.size + 1 + 1, 0, none⟩ (.bool true)) = w5 at *
  have g0 : w5.cell? ⟨w.heap.size + 1, 0, none⟩ = some (.string ⟨#[]⟩) := by rw [cell_of_row w5 _ 0 _ _ (0, 0) f1]; rfl
  have g1 : w5.cell? ⟨w.heap.size + 1, 1, none⟩ = some (.bool true) := by rw [cell_of_row w5 _ 1 _ _ (0, 0) f1]; rfl
  have g2 : w5.cell? ⟨w.heap.size + 1, 2, none⟩ = some (.int .i64 0) := by rw [cell_of_row w5 _ 2 _ _ (0, 0) f1]; rfl
  have g3 : w5.cell? ⟨w.heap.size + 1, 3, none⟩ = some (.slice none 0 0) := by rw [cell_of_row w5 _ 3 _ _ (0, 0) f1]; rfl
  have g4 : w5.cell? ⟨w.heap.size + 1, 4, none⟩ = some (.slice none 0 0) := by rw [cell_of_row w5 _ 4 _ _ (0, 0) f1]; rfl
  have g5 : w5.cell? ⟨w.heap.size + 1 + 1, 0, none⟩ = some (.bool true) := by rw [cell_of_row w5 _ 0 _ _ (0, 0) f2]; rfl
  simp [Leaves, settle, results, Try.results26, go_sem, g0, g1, g2, g3, g4, g5]
  exact ⟨_, _, _, _, _, _, _, _, _, rfl, HT5.out, by have := HLE.out; omega, HKV.out, Kd.R_nil _ _ _ _ _, HS5.out⟩
def StepU (l : Nat → Nat) (w : World) (q p : Nat) (r : (ByteArray × Bool × List Pair) × Bool × List KVx) (e : Ending) (w' : World) : Prop :=
  ∃ l1 V1 n1 S1 kv1 kx1 vv1 vx1 PV, e = .returned (.tuple #[.agg #[.string r.1.1, .bool r.1.2.1, .int .i64 0, .slice none 0 0, PV], .bool true]) ∧ TrC l1 w' q p V1 n1 S1 kv1 kx1 vv1 vx1 r.2.1 ∧ kvs S1 n1 = r.2.2 ∧ Kd.R k34 34 w' w.heap.size (fun k => l1 k = 0) PV r.1.2.2 ∧ Stp (Tz q) l l1 w w'
theorem StepT.told {l : Nat → Nat} {w : World} {q p n : Nat} {dn' : Bool} {T : ByteArray} {is : Bool} {P : List S34} {R : List KVx} {s : Step}
    (h : Calls Try.prog 26 #[.pointer (some ⟨p, 0, none⟩), .agg #[.int .i64 s.f0, .string s.f1, .string s.f2, .int .i64 s.f3, .int .i64 s.f4]] w fun e w' => StepT l w q p n dn' T is P R e w') {r : (ByteArray × Bool × List Pair) × Bool × List KVx} (hr : some ((T, is, P), dn', R) = some r) :
    Calls Try.prog 26 #[.pointer (some ⟨p, 0, none⟩), .agg #[.int .i64 s.f0, .string s.f1, .string s.f2, .int .i64 s.f3, .int .i64 s.f4]] w fun e w' => StepU l w q p r e w' := by
  injection hr with hr
  subst hr
  refine h.mono ?_
  rintro e w' ⟨l1, V1, n1, S1, kv1, kx1, vv1, vx1, PV, h1, h2, h3, h4, h5, h6⟩
  exact ⟨l1, V1, n1, S1, kv1, kx1, vv1, vx1, PV, h1, h2, h4, h5, h6⟩
theorem trailer_calls (l : Nat → Nat) (w : World) (q p n : Nat) (V kv vv : Value) (S : List Slot) (kx vx : List Int) (dn : Bool) (h : TrC l w q p V n S kv kx vv vx dn) (s : Step) (r : (ByteArray × Bool × List Pair) × Bool × List KVx) (hr : stepF dn (kvs S n) s = some r) :
    Calls Try.prog 26 #[.pointer (some ⟨p, 0, none⟩), .agg #[.int .i64 s.f0, .string s.f1, .string s.f2, .int .i64 s.f3, .int .i64 s.f4]] w fun e w' => StepU l w q p r e w' := by
  have hlen := kvs_length h.2.2.2.1.le
  unfold stepF at hr
  rw [hlen] at hr
  by_cases hsz : 1099511627775 < n ∨ 1099511627775 < s.f1.size ∨ 1099511627775 < s.f2.size
  · rw [if_pos hsz] at hr; cases hr
  rw [if_neg hsz] at hr
  have hn : n ≤ 1099511627775 := by omega
  have hk : s.f1.size ≤ 140737488351232 := by omega
  have hv : s.f2.size ≤ 140737488351232 := by omega
  by_cases hd : s.f0 = 0 ∨ s.f0 = 1 ∨ s.f0 = 9
  · rw [if_pos hd] at hr
    by_cases h0 : s.f1.size = 0
    · rw [if_pos h0] at hr; cases hr
    rw [if_neg h0] at hr
    have hk0 : 0 < s.f1.size := by omega
    rcases hd with hd | hd | hd
    · rw [if_neg (show ¬ s.f0 = 9 by omega)] at hr
      by_cases hb : badK (nkd dn (ns s.f1)) = true
      · rw [if_pos hb] at hr; exact StepT.told (trailer_set_true l w q p n V kv vv S kx vx dn h hn s hk0 hk hv hb hd) hr
      · rw [if_neg hb, if_pos hd] at hr; exact StepT.told (trailer_set_false l w q p n V kv vv S kx vx dn h hn s hk0 hk hv (by simpa using hb) hd) hr
    · rw [if_neg (show ¬ s.f0 = 9 by omega)] at hr
      by_cases hb : badK (nkd dn (ns s.f1)) = true
      · rw [if_pos hb] at hr; exact StepT.told (trailer_add_true l w q p n V kv vv S kx vx dn h hn s hk0 hk hv hb hd) hr
      · rw [if_neg hb, if_neg (show ¬ s.f0 = 0 by omega), if_pos hd] at hr; exact StepT.told (trailer_add_false l w q p n V kv vv S kx vx dn h hn s hk0 hk hv (by simpa using hb) hd) hr
    · rw [if_pos hd] at hr
      by_cases hb : badK (ns s.f1) = true
      · rw [if_pos hb] at hr; exact StepT.told (trailer_upd_true l w q p n V kv vv S kx vx dn h hn s hk0 hk hv hb hd) hr
      · rw [if_neg hb, if_neg (show ¬ s.f0 = 0 by omega), if_neg (show ¬ s.f0 = 1 by omega)] at hr; exact StepT.told (trailer_upd_false l w q p n V kv vv S kx vx dn h hn s hk0 hk hv (by simpa using hb) hd) hr
  rw [if_neg hd] at hr
  have hdd := hd
  clear hd
  by_cases hd : s.f0 = 2
  · rw [if_pos hd] at hr
    exact StepT.told (trailer_del l w q p n V kv vv S kx vx dn h hn s hk hd) hr
  rw [if_neg hd] at hr
  by_cases h3 : s.f0 = 3
  · rw [if_pos h3] at hr
    exact StepT.told (trailer_get l w q p n V kv vv S kx vx dn h hn s hk h3) hr
  rw [if_neg h3] at hr
  by_cases h4 : s.f0 = 4
  · rw [if_pos h4] at hr
    cases hs : setGo dn s.f2.size (ns s.f2) [] false with
    | none => rw [hs] at hr; cases hr
    | some x =>
      rw [hs] at hr
      obtain ⟨R, b⟩ := x
      cases b with
      | true => exact StepT.told (trailer_names_true l w q p n V kv vv S kx vx dn h hn s (by omega) _ R hs h4) hr
      | false => exact StepT.told (trailer_names_false l w q p n V kv vv S kx vx dn h hn s (by omega) _ R hs h4) hr
  rw [if_neg h4] at hr
  by_cases h5 : s.f0 = 5
  · rw [if_pos h5] at hr
    by_cases hl : sizeKV (kvs S n) ≤ 140737488355328
    · rw [if_pos hl] at hr; exact StepT.told (trailer_names l w q p n V kv vv S kx vx dn h hn s hl h5) hr
    · rw [if_neg hl] at hr; cases hr
  rw [if_neg h5] at hr
  by_cases h6 : s.f0 = 6
  · rw [if_pos h6] at hr
    by_cases hl : RgK (kvs S n) ∧ sizeKV (kvs S n) + 2 ≤ 140737488355328
    · rw [if_pos hl] at hr; exact StepT.told (trailer_head l w q p n V kv vv S kx vx dn h hn s hl.1 hl.2 h6) hr
    · rw [if_neg hl] at hr; cases hr
  rw [if_neg h6] at hr
  by_cases h7 : s.f0 = 7
  · rw [if_pos h7] at hr
    exact StepT.told (trailer_all l w q p n V kv vv S kx vx dn h hn s _ _ (pairs_toP (kvs S n) (by rw [hlen]; exact hn)) h7) hr
  rw [if_neg h7] at hr
  by_cases h8 : s.f0 = 8
  · rw [if_pos h8] at hr
    exact StepT.told (trailer_empty l w q p n V kv vv S kx vx dn h hn s h8) hr
  rw [if_neg h8] at hr
  by_cases h10 : s.f0 = 10
  · rw [if_pos h10] at hr
    exact StepT.told (trailer_disable l w q p n V kv vv S kx vx dn h hn s h10) hr
  rw [if_neg h10] at hr
  by_cases h11 : s.f0 = 11
  · rw [if_pos h11] at hr
    exact StepT.told (trailer_reset l w q p n V kv vv S kx vx dn h hn s h11) hr
  rw [if_neg h11] at hr
  exact StepT.told (trailer_other l w q p n V kv vv S kx vx dn h s (by omega)) hr
end Go.Proofs.Ytoimkmoalmmooaa.Own
