/- Texts of this claim, one behind the other (merged by wip/prune.py of this repo, without what the proof does not use): GvBase, GvRow, GVoid, GErrNew, GStale, QA7, QA8, QA13, QA14, QA15, QA21, LAddr. -/
import Derived.Test.YtgmjaggkiifdjaaDoorZS1
import Derived.Test.YtgmjaggkiifdjaaDoorZS2
import Derived.Test.YtgmjaggkiifdjaaDoorZS3
import Derived.Test.YtgmjaggkiifdjaaDoorZS4
import Derived.Below
import Derived.BigQuiet
import Derived.Deep.LoopGhost
import Derived.Deep.QuietTactic
import Derived.KernelRfl
import Derived.Laws.BytesArg
import Derived.Laws.RangeAny
import Derived.Laws.RangeString
import Derived.Laws.Slices
import Derived.Lib.ConvBytes
import Derived.Lib.Hide
import Derived.Lib.TrimU
import Derived.Outline
import Derived.OwnWalk
import Derived.RowKit3
import Derived.Tactics
import Derived.Test.YtgmjaggkiifdjaaDoorProg
import Derived.WalkKit
import Derived.WalkLawsBesides
import Derived.WalkSpells
import Derived.WideLaws
set_option linter.unusedVariables false
set_option linter.unusedSimpArgs false
namespace Go.Proofs.YtgmjaggkiifdjaaDoor.Gv
open Go.RowKit Go.Proofs.YtgmjaggkiifdjaaDoorW.PrintWords Go.Proofs.YtgmjaggkiifdjaaDoorW.PrintLast Go.Proofs.YtgmjaggkiifdjaaDoorW.PrintMore Go.Proofs.YtgmjaggkiifdjaaDoor.Base
theorem width_pos (s : ByteArray) (pos : Nat) (h : pos < s.size) : 1 ≤ (Utf8.decode s pos).2 := by
  by_cases ha : (s[pos]'h).toNat < 128
  · rw [decode_ascii s pos h ha]; exact Nat.le_refl _
  · exact (decode_high s pos h (by omega)).2
theorem get_bt (s : ByteArray) (i : Nat) (h : i < s.size) : ((s.get! i).toNat : Int) = bt s (i : Int) := by
  have e : s.get! i = s[i]'h := by simp [ByteArray.get!, getElem!_pos, h]; rfl
  rw [e]
  exact bt_at s (i : Int) h
theorem conts (s : ByteArray) (pos j : Nat) (h1 : 1 ≤ j) (h2 : j < (Utf8.decode s pos).2) : pos + j < s.size ∧ 128 ≤ bt s ((pos + j : Nat) : Int) := by
  have key : ∀ k, (decide (pos + k < s.size) && (s.get! (pos + k)).toNat / 64 == 2) = true → pos + k < s.size ∧ 128 ≤ bt s ((pos + k : Nat) : Int) := by
    intro k hk
    simp only [Bool.and_eq_true, decide_eq_true_eq, beq_iff_eq] at hk
    refine ⟨hk.1, ?_⟩
    rw [← get_bt s (pos + k) hk.1]
    omega
  unfold Utf8.decode at h2
  simp only at h2
  split at h2
  · simp only at h2; omega
  · split at h2
    · rename_i hc
      simp only [Bool.and_eq_true] at hc
      split at h2
      · simp only at h2
        obtain rfl : j = 1 := by omega
        exact key 1 (by simpa using hc.2)
      · simp only at h2; omega
    · split at h2
      · rename_i hc
        simp only [Bool.and_eq_true] at hc
        split at h2
        · simp only at h2
          rcases (by omega : j = 1 ∨ j = 2) with rfl | rfl
          · exact key 1 (by simpa using hc.1.2)
          · exact key 2 (by simpa using hc.2)
        · simp only at h2; omega
      · split at h2
        · rename_i hc
          simp only [Bool.and_eq_true] at hc
          split at h2
          · simp only at h2
            rcases (by omega : j = 1 ∨ j = 2 ∨ j = 3) with rfl | rfl | rfl
            · exact key 1 (by simpa using hc.1.1.2)
            · exact key 2 (by simpa using hc.1.2)
            · exact key 3 (by simpa using hc.2)
          · simp only at h2; omega
        · simp only at h2; omega
theorem rune_is (s : ByteArray) (pos : Nat) (h : pos < s.size) (c : Int) (hc : c < 128) : ((Utf8.decode s pos).1 : Int) = c ↔ bt s (pos : Int) = c := by
  have hb : bt s (pos : Int) = ((s[pos]'h).toNat : Int) := (bt_at s (pos : Int) h).symm
  by_cases ha : (s[pos]'h).toNat < 128
  · rw [decode_ascii s pos h ha, hb]
  · have := (decode_high s pos h (by omega)).1
    rw [hb]
    omega
def Br (w : World) (e : TypeId) (g : Nat) (xs : List Int) : Prop :=
  ∃ cur fr, w.heap[g]? = some (.cells cur e fr) ∧ (∀ j, j < xs.length → cur[j]? = some (.int .u8 (xs.getD j 0))) ∧ ∀ j, j < xs.length → ¬ (fr.1 ≤ j ∧ j < fr.2)
theorem Br.cell {w : World} {e : TypeId} {g : Nat} {xs : List Int} (h : Br w e g xs) (j : Nat) (hj : j < xs.length) : w.cell? ⟨g, j, none⟩ = some (.int .u8 (xs.getD j 0)) := by
  obtain ⟨cur, fr, hb, hc, _⟩ := h
  simp only [World.cell?, hb]
  exact hc j hj
theorem Br.same {w w' : World} {e : TypeId} {g : Nat} {xs : List Int} (h : Br w e g xs) (hb : w'.heap[g]? = w.heap[g]?) : Br w' e g xs := by
  obtain ⟨cur, fr, h1, h2⟩ := h
  exact ⟨cur, fr, hb.trans h1, h2⟩
theorem Br.conv (w : World) (e : TypeId) (s : ByteArray) : Br (Lib.bytesWorld w e s) e w.heap.size (ns s) := by
  refine ⟨_, _, Lib.bytesWorld_at_new w e s, fun j hj => ?_, fun j hj => ?_⟩
  · rw [ns_length] at hj
    have h := Lib.bytesWorld_cell w e s j hj
    simp only [World.cell?, Lib.bytesWorld_at_new] at h
    have h2 : (ns s).getD j 0 = ((s.data.toList.getD j 0).toNat : Int) := by
      unfold ns
      rw [List.getD_eq_getElem?_getD, List.getD_eq_getElem?_getD, List.getElem?_map]
      have : j < s.data.toList.length := by rw [← Lib.size_eq]; exact hj
      rw [List.getElem?_eq_getElem this]; rfl
    rw [h2]
    simpa using h
  · rw [ns_length] at hj
    have : s.size ≤ (Lib.bytesCells w e s).size := by simp [Lib.bytesCells]
    simp only
    omega
theorem conv_below (w : World) (e : TypeId) (s : ByteArray) : Below w.heap.size w (Lib.bytesWorld w e s) :=
  ⟨rfl, rfl, rfl, by rw [Lib.bytesWorld_size]; omega, fun i hi => Lib.bytesWorld_at_old w e s i hi⟩
theorem Br.reads {w : World} {e : TypeId} {g : Nat} {xs : List Int} (h : Br w e g xs) (hl : xs.length ≤ 9223372036854775807) : ReadsOf (Value.int .u8) 0 w (some ⟨g, 0, none⟩) xs.length xs :=
  ⟨rfl, hl, fun _ => ⟨_, rfl, fun j hj => by rw [add_plain]; exact h.cell j hj⟩⟩
theorem Br.drewN {w : World} {e : TypeId} {g : Nat} {xs : List Int} (h : Br w e g xs) (k : Nat) : Br (w.drewN k) e g xs := h.same rfl
theorem Br.mid {P : Program} {e t dst : TypeId} {i : TypeInfo} (ht : P.underlying t = some (.slice e)) (he : P.underlying e = some (.int .u8)) (hd : P.underlying dst = some .string) (hi : P.info? e = some i) (hsz : i.size = 1) (g c : Nat) (xs : List Int) (a b : Nat) (h1 : a ≤ b) (hm : b ≤ xs.length) (hc : xs.length ≤ c) (hl : xs.length ≤ 9223372036854775807) :
    ∃ A' : Option Addr, (∀ W : World, (Instr.slice t (.slice (some ⟨g, 0, none⟩) xs.length c) (some (.int .i64 a)) (some (.int .i64 b)) none).run P W = .ok (.slice A' (b - a) (c - a)) W) ∧
      ∀ w : World, Br w e g xs → (convert t dst (.slice A' (b - a) (c - a))).run P w = .ok (.string (strOfNums ((xs.take b).drop a))) w := by
  obtain ⟨A', hcut, hA, _⟩ := print_mid_of (P := P) (Value.int .u8) 0 t e .i64 .i64 ht hi hsz (some ⟨g, 0, none⟩) c xs (a : Int) (b : Int) (by omega) (by omega) (by omega) hc
  have hlen : ((xs.take (b : Int).toNat).drop (a : Int).toNat).length = b - a := by simp; omega
  refine ⟨A', fun W => ?_, fun w h => ?_⟩
  · rw [hcut W, hlen, Int.toNat_natCast]
  · have h2 := hA w (h.reads hl)
    have h3 := Kd.C_string (P := P) (A := A') (c := c - a) ht he hd (Kd.C_of_reads (h1 := fun _ => rfl) h2)
    rw [hlen] at h3
    simpa using h3
def TabIs (S : ByteArray) (f : Int → Int) : Prop := S.size = 256 ∧ ∀ n : Fin 256, bt S ((n.val : Nat) : Int) = f ((n.val : Nat) : Int)
instance (S : ByteArray) (f : Int → Int) : Decidable (TabIs S f) := inferInstanceAs (Decidable (_ ∧ _))
end Go.Proofs.YtgmjaggkiifdjaaDoor.Gv
namespace Go.Proofs.YtgmjaggkiifdjaaDoor.Given
open Go.RowKit Go.Proofs.YtgmjaggkiifdjaaDoorW.PrintWords Go.Proofs.YtgmjaggkiifdjaaDoorW.PrintLast Go.Proofs.YtgmjaggkiifdjaaDoorW.PrintMore
def bytealg_LastIndexRabinKarp_string.f (a0 a1 : ByteArray) : Option Int := none
theorem bytealg_LastIndexRabinKarp_string.calls (a0 a1 : ByteArray) (r : Int) (w : World) (h : bytealg_LastIndexRabinKarp_string.f a0 a1 = some r) :
    Calls Tryd.prog 114 #[.string a0, .string a1] w fun e w' => e = .returned (.int .i64 r) ∧ Drawn0 w w' := by
  cases h
set_option maxHeartbeats 1000000 in
theorem errNew_calls (s : ByteArray) (w : World) : Calls Tryd.prog 100 #[.string s] w fun e w' => Below w.heap.size w w' ∧ ∃ u x, e = .returned (.iface u x) := by
  go_enter Tryd.func100, Tryd.ntmps100
  go_wp2
  go_ret
  exact ⟨(Below.refl _ _).alloc (Nat.le_refl _) _, _, _, rfl⟩
open Go.Proofs.YtgmjaggkiifdjaaDoor.Base Go.Proofs.YtgmjaggkiifdjaaDoor.Gv Go.Proofs.YtgmjaggkiifdjaaDoor.QA
def wk : List Int := [87, 47]
def etagM (s t : List Int) : Bool := decide (s = t) || decide (s = wk ++ t) || decide (wk ++ s = t)
theorem toList_ns (a b : ByteArray) : a.toList = b.toList ↔ ns a = ns b := ⟨fun h => by rw [(toList_eq_iff a b).1 h], fun h => by rw [ns_inj h]⟩
theorem matchEtag_is (s t : ByteArray) (hs : s.size ≤ 4611686018427387904) (ht : t.size ≤ 4611686018427387904) : fiberhelpers_matchEtag.f s t = some (etagM (ns s) (ns t)) := by
  unfold fiberhelpers_matchEtag.f etagM
  have hw : ns (⟨#[87, 47]⟩ : ByteArray) = wk := by decide
  by_cases h1 : ns s = ns t
  · rw [if_pos ((toList_ns _ _).2 h1)]; simp [h1]
  · rw [if_neg (fun e => h1 ((toList_ns _ _).1 e)), if_pos (by omega)]
    by_cases h2 : ns s = wk ++ ns t
    · rw [if_pos ((toList_ns _ _).2 (by rw [ns_append, hw]; exact h2))]; simp [h2]
    · rw [if_neg (fun e => h2 (by have := (toList_ns _ _).1 e; rwa [ns_append, hw] at this)), if_pos (by omega)]
      by_cases h3 : wk ++ ns s = ns t
      · rw [if_pos ((toList_ns _ _).2 (by rw [ns_append, hw]; exact h3))]; simp [h3]
      · rw [if_neg (fun e => h3 (by have := (toList_ns _ _).1 e; rwa [ns_append, hw] at this))]; simp [h1, h2, h3]
def staleGo (tag : List Int) : List Int → List Int → List Int → Bool
  | seg, _, [] => !etagM seg tag
  | seg, gap, c :: rest =>
    if c = 32 then (if seg = [] then staleGo tag [] [] rest else staleGo tag seg (gap ++ [32]) rest)
    else if c = 44 then (if etagM seg tag = true then false else staleGo tag [] [] rest)
    else staleGo tag (seg ++ gap ++ [c]) [] rest
def fiberhelpers_ZzStale.f (a0 a1 : ByteArray) : Option Bool := if a0.size ≤ 4611686018427387904 ∧ a1.size ≤ 4611686018427387904 then some (staleGo (ns a0) [] [] (ns a1)) else none
theorem seg_is (pre seg gap rest : List Int) (p q : Nat) (hp : p = pre.length) (hq : q = p + seg.length) : ((pre ++ seg ++ gap ++ rest).take q).drop p = seg := by
  subst hp hq
  have h1 : pre ++ seg ++ gap ++ rest = (pre ++ seg) ++ (gap ++ rest) := by simp
  have h2 : pre.length + seg.length = (pre ++ seg).length := by simp
  rw [h1, h2, List.take_left, List.drop_left]
theorem at_is (pre seg gap rest : List Int) (c : Int) (q : Nat) (hq : q = pre.length + seg.length + gap.length) : (pre ++ seg ++ gap ++ c :: rest).getD q 0 = c := by
  subst hq
  have : pre.length + seg.length + gap.length = (pre ++ seg ++ gap).length := by simp; omega
  rw [this, List.getD_eq_getElem?_getD, List.getElem?_append_right (Nat.le_refl _), Nat.sub_self]; rfl
set_option maxHeartbeats 4000000 in
set_option maxRecDepth 100000 in
theorem isEtagStale_calls (W : World) (a0 : ByteArray) (g n c : Nat) (xs : List Int) (ha : a0.size ≤ 4611686018427387904) (hx : ∀ x ∈ xs, 0 ≤ x ∧ x ≤ 255) (hn : xs.length = n) (hnl : n ≤ 4611686018427387904) (hc : n ≤ c) (hb : Br W 5 g xs) :
    Calls Tryd.prog 84 #[.string a0, .slice (some ⟨g, 0, none⟩) n c] W fun e w' => e = .returned (.bool (staleGo (ns a0) [] [] xs)) ∧ Drawn0 W w' := by
  have HB := Lib.hid hb
  have HN := Lib.hid hn
  have HX := Lib.hid hx
  have hinfo : (Tryd.prog.info? 5).map (fun i => (i.zero, i.size, i.bytes)) = some (some (.int .u8 0), 1, 1) := by kernel_rfl
  obtain ⟨i0, hi, _, hsz, _⟩ := info_parts hinfo
  have HI := Lib.hid (And.intro hi hsz)
  obtain ⟨res, hres⟩ : ∃ res, staleGo (ns a0) [] [] xs = res := ⟨_, rfl⟩
  have HR := Lib.hid hres
  rw [hres]
  clear hb hn hx hinfo hi hsz hres
  go_enter Tryd.func84, Tryd.ntmps84
  go_wp2
  go_loopw [5, 6, 10] (fun s e i wr => ∃ (pre seg gap rest : List Int) (p q k m : Nat), wr = W.drewN m ∧ s = .int .i64 p ∧ e = .int .i64 q ∧ i = .int .i64 k ∧ p = pre.length ∧ q = p + seg.length ∧ k = q + gap.length ∧ Hid (xs = pre ++ seg ++ gap ++ rest) ∧ Hid (seg = [] → gap = []) ∧ Hid (staleGo (ns a0) seg gap rest = res)) (fun _ _ i _ => n - (intOf i).toNat)
  case atStart => exact ⟨[], [], [], xs, 0, 0, 0, 0, rfl, rfl, rfl, rfl, rfl, rfl, rfl, Lib.hid rfl, Lib.hid (fun _ => rfl), HR⟩
  case round =>
    obtain ⟨pre, seg, gap, rest, p, q, k, m, rfl, rfl, rfl, rfl, hp, hq, hk, HE, HG, HS⟩ := hrel
    have HP := Lib.hid hp
    have HQ := Lib.hid hq
    have HK := Lib.hid hk
    have hpq : p ≤ q := by omega
    have hqk : q ≤ k := by omega
    have hkn : k + rest.length = n := by
      have h1 := congrArg List.length HE.out
      rw [HN.out] at h1
      simp only [List.length_append] at h1
      omega
    have hkle : k ≤ n := by omega
    have HKN := Lib.hid hkn
    clear hp hq hk hkn
    have hmid : ∃ A' : Option Addr, (∀ W : World, (Instr.slice 49 (.slice (some ⟨g, 0, none⟩) n c) (some (.int .i64 p)) (some (.int .i64 q)) none).run Tryd.prog W = .ok (.slice A' (q - p) (c - p)) W) ∧ (convert 49 9 (.slice A' (q - p) (c - p))).run Tryd.prog (W.drewN m) = .ok (.string (strOfNums seg)) (W.drewN m) := by
      obtain ⟨A', h1, h2⟩ := Br.mid (P := Tryd.prog) Tryd.underlying49 Tryd.underlying5 Tryd.underlying9 HI.out.1 HI.out.2 g c xs p q hpq (by rw [HN.out]; omega) (by rw [HN.out]; exact hc) (by rw [HN.out]; omega)
      rw [HN.out] at h1
      refine ⟨A', h1, ?_⟩
      have h3 := h2 (W.drewN m) (HB.out.drewN m)
      rw [HE.out, seg_is pre seg gap rest p q HP.out HQ.out] at h3
      exact h3
    obtain ⟨A', hcut, htxt⟩ := hmid
    have hsegn : (strOfNums seg).size ≤ 4611686018427387904 := by
      rw [strOfNums_size]
      have h1 := congrArg List.length HE.out
      rw [HN.out] at h1
      simp only [List.length_append] at h1
      omega
    have hnsseg : ns (strOfNums seg) = seg := ns_strOfNums (fun x hx => HX.out x (by rw [HE.out]; simp [hx]))
    have hmatch : Hid (fiberhelpers_matchEtag.f (strOfNums seg) a0 = some (etagM seg (ns a0))) := Lib.hid (by rw [matchEtag_is _ _ hsegn ha, hnsseg])
    clear hsegn hnsseg
    obtain ⟨S, hS⟩ : ∃ S, strOfNums seg = S := ⟨_, rfl⟩
    rw [hS] at htxt hmatch
    clear hS
    obtain ⟨mt, hmt⟩ : ∃ mt, etagM seg (ns a0) = mt := ⟨_, rfl⟩
    rw [hmt] at hmatch
    have HM := Lib.hid hmt
    clear hmt
    cases rest with
    | nil =>
      have hkn : n ≤ k := by have := HKN.out; simp at this; omega
      have hfin : Hid (res = !mt) := Lib.hid (by have := HS.out; unfold staleGo at this; rw [HM.out] at this; exact this.symm)
      go_wp2_with (go_at_call 80; refine (fiberhelpers_matchEtag.calls S a0 mt _ hmatch.out).mono ?_; rintro e w' ⟨rfl, ⟨nd, rfl⟩⟩)
      go_ret
      exact ⟨by rw [hfin.out]; rfl, ⟨⟨m + nd, rfl⟩⟩⟩
    | cons x rest =>
      have hkn : k < n := by have := HKN.out; simp at this; omega
      have hcell : W.cell? ⟨g, k, none⟩ = some (.int .u8 x) := by
        have h1 := HB.out.cell k (by rw [HN.out]; exact hkn)
        rw [HE.out, at_is pre seg gap rest x k (by have := HP.out; have := HQ.out; have := HK.out; omega)] at h1
        exact h1
      by_cases h32 : x = 32
      · subst h32
        by_cases hs : seg = []
        · subst hs
          have hgap : gap = [] := HG.out rfl
          subst hgap
          have hpqe : ((p : Int) == (q : Int)) = true := beq_iff_eq.2 (by have := HQ.out; simp at this; omega)
          have hS1 : Hid (staleGo (ns a0) [] [] rest = res) := Lib.hid (by have := HS.out; unfold staleGo at this; rw [if_pos rfl, if_pos rfl] at this; exact this)
          have hE1 : Hid (xs = (pre ++ [32]) ++ [] ++ [] ++ rest) := Lib.hid (by rw [HE.out]; simp)
          have hl1 : Hid (k + 1 = (pre ++ [(32 : Int)]).length) := Lib.hid (by have := HP.out; have := HQ.out; have := HK.out; simp at *; omega)
          clear hcut htxt
          go_wp2
          go_roundw
          case rel => exact ⟨pre ++ [32], [], [], rest, k + 1, k + 1, k + 1, m, rfl, by go_num, by go_num, by go_num, hl1.out, rfl, rfl, hE1, Lib.hid (fun _ => rfl), hS1⟩
          case measure => simp [intOf]; omega
        · have hpqe : ((p : Int) == (q : Int)) = false := beq_eq_false_iff_ne.2 (by
            have h1 := HQ.out
            have h2 := List.length_pos_iff.2 hs
            omega)
          have hS1 : Hid (staleGo (ns a0) seg (gap ++ [32]) rest = res) := Lib.hid (by have := HS.out; unfold staleGo at this; rw [if_pos rfl, if_neg hs] at this; exact this)
          have hE1 : Hid (xs = pre ++ seg ++ (gap ++ [32]) ++ rest) := Lib.hid (by rw [HE.out]; simp)
          have hG1 : Hid (seg = [] → gap ++ [(32 : Int)] = []) := Lib.hid (fun h => absurd h hs)
          have hl1 : Hid (k + 1 = q + (gap ++ [(32 : Int)]).length) := Lib.hid (by have := HK.out; simp; omega)
          clear hcut htxt hs
          go_wp2
          go_roundw
          case rel => exact ⟨pre, seg, gap ++ [32], rest, p, q, k + 1, m, rfl, rfl, rfl, by go_num, HP.out, HQ.out, hl1.out, hE1, hG1, hS1⟩
          case measure => simp [intOf]; omega
      · by_cases h44 : x = 44
        · subst h44
          cases mt with
          | true =>
            have hfin : Hid (res = false) := Lib.hid (by have := HS.out; unfold staleGo at this; rw [if_neg (by decide), if_pos rfl, if_pos HM.out] at this; exact this.symm)
            clear h32
            go_wp2_with (go_at_call 80; refine (fiberhelpers_matchEtag.calls S a0 true _ hmatch.out).mono ?_; rintro e w' ⟨rfl, ⟨nd, rfl⟩⟩)
            go_ret
            exact ⟨by rw [hfin.out]; rfl, ⟨⟨m + nd, rfl⟩⟩⟩
          | false =>
            have hS1 : Hid (staleGo (ns a0) [] [] rest = res) := Lib.hid (by have := HS.out; unfold staleGo at this; rw [if_neg (by decide), if_pos rfl, if_neg (by rw [HM.out]; decide)] at this; exact this)
            have hE1 : Hid (xs = (pre ++ seg ++ gap ++ [44]) ++ [] ++ [] ++ rest) := Lib.hid (by rw [HE.out]; simp)
            have hl1 : Hid (k + 1 = (pre ++ seg ++ gap ++ [(44 : Int)]).length) := Lib.hid (by have := HP.out; have := HQ.out; have := HK.out; simp only [List.length_append, List.length_cons, List.length_nil]; omega)
            clear h32
            go_wp2_with (go_at_call 80; refine (fiberhelpers_matchEtag.calls S a0 false _ hmatch.out).mono ?_; rintro e w' ⟨rfl, ⟨nd, rfl⟩⟩)
            go_roundw
            case rel => exact ⟨pre ++ seg ++ gap ++ [44], [], [], rest, k + 1, k + 1, k + 1, m + nd, rfl, by go_num, by go_num, by go_num, hl1.out, rfl, rfl, hE1, Lib.hid (fun _ => rfl), hS1⟩
            case measure => simp [intOf]; omega
        · have t32 : (x == 32) = false := beq_eq_false_iff_ne.2 h32
          have t44 : (x == 44) = false := beq_eq_false_iff_ne.2 h44
          have hS1 : Hid (staleGo (ns a0) (seg ++ gap ++ [x]) [] rest = res) := Lib.hid (by have := HS.out; unfold staleGo at this; rw [if_neg h32, if_neg h44] at this; exact this)
          have hE1 : Hid (xs = pre ++ (seg ++ gap ++ [x]) ++ [] ++ rest) := Lib.hid (by rw [HE.out]; simp)
          have hl1 : Hid (k + 1 = p + (seg ++ gap ++ [x]).length) := Lib.hid (by have := HQ.out; have := HK.out; simp only [List.length_append, List.length_cons, List.length_nil]; omega)
          clear hcut htxt h32 h44
          go_wp2
          go_roundw
          case rel => exact ⟨pre, seg ++ gap ++ [x], [], rest, p, k + 1, k + 1, m, rfl, rfl, by go_num, by go_num, HP.out, hl1.out, rfl, hE1, Lib.hid (fun _ => rfl), hS1⟩
          case measure => simp [intOf]; omega
set_option maxHeartbeats 1000000 in
theorem stale_calls (a0 a1 : ByteArray) (w : World) (h0 : a0.size ≤ 4611686018427387904) (h1 : a1.size ≤ 4611686018427387904) :
    Calls Tryd.prog 56 #[.string a0, .string a1] w fun e w' => e = .returned (.bool (staleGo (ns a0) [] [] (ns a1))) ∧ Below w.heap.size w w' := by
  have hcv := Lib.run_convert_string_bytes (P := Tryd.prog) w 9 49 5 a1 Tryd.underlying9 Tryd.underlying49 Tryd.underlying5
  have hbr := Br.conv w 5 a1
  have hbl := conv_below w 5 a1
  have hcap := grownCap_ge w a1.size 0 5
  obtain ⟨c, hc⟩ : ∃ c, grownCap w a1.size 0 5 = c := ⟨_, rfl⟩
  rw [hc] at hcv hcap
  clear hc
  obtain ⟨W, hW⟩ : ∃ W, Lib.bytesWorld w 5 a1 = W := ⟨_, rfl⟩
  rw [hW] at hcv hbr hbl
  have HB := Lib.hid hbr
  have HL := Lib.hid hbl
  have hlen : Hid ((ns a1).length = a1.size) := Lib.hid (ns_length a1)
  have hrg : Hid (∀ x ∈ ns a1, 0 ≤ x ∧ x ≤ 255) := Lib.hid (fun x hx => ns_range a1 x hx)
  have hin := Lib.hid (isEtagStale_calls W a0 w.heap.size a1.size c (ns a1) h0 hrg.out hlen.out h1 hcap hbr)
  clear hW hbr hbl hcap
  go_enter Tryd.func56, Tryd.ntmps56
  go_wp2_with fail
  refine (hin.out).mono ?_
  rintro e w' ⟨rfl, ⟨nd, rfl⟩⟩
  go_wp2
  go_ret
  exact ⟨rfl, pw_below_drewN HL.out nd⟩
theorem fiberhelpers_ZzStale.calls (a0 a1 : ByteArray) (r : Bool) (w : World) (h : fiberhelpers_ZzStale.f a0 a1 = some r) :
    Calls Tryd.prog 56 #[.string a0, .string a1] w fun e w' => e = .returned (.bool r) ∧ Below w.heap.size w w' := by
  unfold fiberhelpers_ZzStale.f at h
  by_cases hbd : a0.size ≤ 4611686018427387904 ∧ a1.size ≤ 4611686018427387904
  · rw [if_pos hbd] at h
    obtain rfl : staleGo (ns a0) [] [] (ns a1) = r := Option.some.inj h
    exact stale_calls a0 a1 w hbd.1 hbd.2
  · rw [if_neg hbd] at h
    cases h
end Go.Proofs.YtgmjaggkiifdjaaDoor.Given
namespace Go.Proofs.YtgmjaggkiifdjaaDoor.QA
open Go.Proofs.YtgmjaggkiifdjaaDoor.Given
open Go.Proofs.YtgmjaggkiifdjaaDoor.PrX
open Go.RowKit Go.Proofs.YtgmjaggkiifdjaaDoorW.PrintWords Go.Proofs.YtgmjaggkiifdjaaDoorW.PrintLast Go.Proofs.YtgmjaggkiifdjaaDoorW.PrintMore
def strings_LastIndex.f (k : Nat) (a0 : ByteArray) (a1 : ByteArray) : Option (Int) := if (a1.size : Int) = 0 then (some (a0.size : Int)) else (if (a1.size : Int) = 1 then (if 0 < (a1.size : Int) then ((bytealg_LastIndexByteString.f k a0 (bt a1 0)).bind fun t108 => (some t108)) else (none)) else (if (a1.size : Int) = (a0.size : Int) then (if a1.toList = a0.toList then (some 0) else (some (-1))) else (if (a1.size : Int) > (a0.size : Int) then (some (-1)) else ((bytealg_LastIndexRabinKarp_string.f a0 a1).bind fun t109 => (some t109)))))
set_option maxHeartbeats 8000000 in
set_option maxRecDepth 100000 in
theorem strings_LastIndex.calls (k : Nat) (a0 : ByteArray) (a1 : ByteArray) (r : Int) (w : World) (h : strings_LastIndex.f k a0 a1 = some r) :
    Calls Tryd.prog 99 #[.string a0, .string a1] w fun e w' => e = .returned (.int .i64 r) ∧ Drawn0 w w' := by
  have H : (if (a1.size : Int) = 0 then (some (a0.size : Int)) else (if (a1.size : Int) = 1 then (if 0 < (a1.size : Int) then ((bytealg_LastIndexByteString.f k a0 (bt a1 0)).bind fun t108 => (some t108)) else (none)) else (if (a1.size : Int) = (a0.size : Int) then (if a1.toList = a0.toList then (some 0) else (some (-1))) else (if (a1.size : Int) > (a0.size : Int) then (some (-1)) else ((bytealg_LastIndexRabinKarp_string.f a0 a1).bind fun t109 => (some t109)))))) = some r := h
  clear h
  by_cases c3 : (a1.size : Int) = 0
  · rw [if_pos c3] at H
    have c3b0 : ((a1.size : Int) == 0) = true := beq_iff_eq.mpr c3
    have c3b1 : ((a1.size : Int) != 0) = false := bne_eq_false_iff_eq.mpr c3
    clear c3
    obtain rfl := Option.some.inj H
    go_enter Tryd.func99, Tryd.ntmps99
    go_wp2
    go_ret
    exact ⟨by first | rfl | (simp; done) | (rw [prx_ne]; first | done | rfl) | (simp [*]; done), by repeat (first | exact Drawn0.refl _ | apply Drawn0.step)⟩
  · rw [if_neg c3] at H
    have c3b0 : ((a1.size : Int) == 0) = false := beq_eq_false_iff_ne.mpr c3
    have c3b1 : ((a1.size : Int) != 0) = true := bne_iff_ne.mpr c3
    by_cases c4 : (a1.size : Int) = 1
    · rw [if_pos c4] at H
      have c4b0 : ((a1.size : Int) == 1) = true := beq_iff_eq.mpr c4
      have c4b1 : ((a1.size : Int) != 1) = false := bne_eq_false_iff_eq.mpr c4
      clear c4
      by_cases c5 : 0 < (a1.size : Int)
      · rw [if_pos c5] at H
        have c5b0 : decide (0 < (a1.size : Int)) = true := decide_eq_true c5
        have c5b1 : decide (0 < a1.size) = true := decide_eq_true (by omega)
        clear c5
        replace H := Option.bind_eq_some_iff.mp H
        obtain ⟨t108, A70, H⟩ := H
        replace H : (some t108) = some r := H
        have A7 := Aside0.mk A70
        clear A70
        obtain rfl := Option.some.inj H
        have p6 : 0 ≤ (0 : Int) := (by omega)
        have q6 : 0 < a1.size := (by have : (0 : Int) < (a1.size : Int) := of_decide_eq_true (by first | (with_reducible assumption) | assumption); omega)
        have hx6 : ∀ h : 0 < a1.size, ((a1[0]'h).toNat : Int) = bt a1 0 := bt_at a1 0
        clear p6
        have qi6 : (0 < (a1.size : Int)) = True := eq_true (of_decide_eq_true (by first | (with_reducible assumption) | assumption))
        replace q6 := eq_true q6
        go_enter Tryd.func99, Tryd.ntmps99
        go_wp2_with (first | ((with_reducible refine gate_callee (f := 113) rfl ?_); refine goesL_ (some 19) rfl rfl Tryd.func113 (by kernel_rfl) rfl #[.string a0, .int .u8 (bt a1 0)] rfl (by (try simp only [List.map_toArray, List.map_cons, List.map_nil]); first | done | rfl | (simp only [List.length_drop, List.length_take]; rfl)) ?_; (with_reducible refine (bytealg_LastIndexByteString.calls k a0 (bt a1 0) t108 _ A7.out).mono ?_); rintro e w' ⟨rfl, ⟨nd, rfl⟩⟩; refine ⟨_, rfl, ?_⟩))
        go_ret
        exact ⟨by first | rfl | (simp; done) | (rw [prx_ne]; first | done | rfl) | (simp [*]; done), by repeat (first | exact Drawn0.refl _ | apply Drawn0.step)⟩
      · rw [if_neg c5] at H
        exact absurd H (by simp)
    · rw [if_neg c4] at H
      have c4b0 : ((a1.size : Int) == 1) = false := beq_eq_false_iff_ne.mpr c4
      have c4b1 : ((a1.size : Int) != 1) = true := bne_iff_ne.mpr c4
      by_cases c8 : (a1.size : Int) = (a0.size : Int)
      · rw [if_pos c8] at H
        have c8b0 : ((a1.size : Int) == (a0.size : Int)) = true := beq_iff_eq.mpr c8
        have c8b1 : ((a1.size : Int) != (a0.size : Int)) = false := bne_eq_false_iff_eq.mpr c8
        have c8b2 : (a1.size == a0.size) = true := by first | simpa using c8 | (simp at c8 ⊢; omega)
        clear c8
        by_cases c9 : a1.toList = a0.toList
        · rw [if_pos c9] at H
          have c9b0 : (a1.toList == a0.toList) = true := beq_iff_eq.mpr c9
          have c9b1 : (a1.toList != a0.toList) = false := bne_eq_false_iff_eq.mpr c9
          clear c9
          obtain rfl := Option.some.inj H
          go_enter Tryd.func99, Tryd.ntmps99
          go_wp2
          go_ret
          exact ⟨by first | rfl | (simp; done) | (rw [prx_ne]; first | done | rfl) | (simp [*]; done), by repeat (first | exact Drawn0.refl _ | apply Drawn0.step)⟩
        · rw [if_neg c9] at H
          have c9b0 : (a1.toList == a0.toList) = false := beq_eq_false_iff_ne.mpr c9
          have c9b1 : (a1.toList != a0.toList) = true := bne_iff_ne.mpr c9
          obtain rfl := Option.some.inj H
          go_enter Tryd.func99, Tryd.ntmps99
          go_wp2
          go_ret
          exact ⟨by first | rfl | (simp; done) | (rw [prx_ne]; first | done | rfl) | (simp [*]; done), by repeat (first | exact Drawn0.refl _ | apply Drawn0.step)⟩
      · rw [if_neg c8] at H
        have c8b0 : ((a1.size : Int) == (a0.size : Int)) = false := beq_eq_false_iff_ne.mpr c8
        have c8b1 : ((a1.size : Int) != (a0.size : Int)) = true := bne_iff_ne.mpr c8
        have c8b2 : (a1.size == a0.size) = false := by first | simpa using c8 | (simp at c8 ⊢; omega)
        by_cases c10 : (a1.size : Int) > (a0.size : Int)
        · rw [if_pos c10] at H
          have c10b0 : decide ((a0.size : Int) < (a1.size : Int)) = true := decide_eq_true c10
          have c10b1 : decide (a0.size < a1.size) = true := decide_eq_true (Int.ofNat_lt.mp c10)
          clear c10
          obtain rfl := Option.some.inj H
          go_enter Tryd.func99, Tryd.ntmps99
          go_wp2
          go_ret
          exact ⟨by first | rfl | (simp; done) | (rw [prx_ne]; first | done | rfl) | (simp [*]; done), by repeat (first | exact Drawn0.refl _ | apply Drawn0.step)⟩
        · rw [if_neg c10] at H
          have c10b0 : decide ((a0.size : Int) < (a1.size : Int)) = false := decide_eq_false c10
          have c10b1 : decide (a0.size < a1.size) = false := decide_eq_false (fun h => c10 (Int.ofNat_lt.mpr h))
          clear c10
          replace H := Option.bind_eq_some_iff.mp H
          obtain ⟨t109, A110, H⟩ := H
          replace H : (some t109) = some r := H
          have A11 := Aside0.mk A110
          clear A110
          obtain rfl := Option.some.inj H
          go_enter Tryd.func99, Tryd.ntmps99
          go_wp2_with (first | ((with_reducible refine gate_callee (f := 114) rfl ?_); refine goesL_ (some 35) rfl rfl Tryd.func114 (by kernel_rfl) rfl #[.string a0, .string a1] rfl (by (try simp only [List.map_toArray, List.map_cons, List.map_nil]); first | done | rfl | (simp only [List.length_drop, List.length_take]; rfl)) ?_; (with_reducible refine (bytealg_LastIndexRabinKarp_string.calls a0 a1 t109 _ A11.out).mono ?_); rintro e w' ⟨rfl, ⟨nd, rfl⟩⟩; refine ⟨_, rfl, ?_⟩))
          go_ret
          exact ⟨by first | rfl | (simp; done) | (rw [prx_ne]; first | done | rfl) | (simp [*]; done), by repeat (first | exact Drawn0.refl _ | apply Drawn0.step)⟩
def fiberhelpers_parseAddr.f (k : Nat) (a0 : ByteArray) : Option (ByteArray × ByteArray) := (strings_LastIndex.f k a0 (⟨#[58]⟩ : ByteArray)).bind fun t110 => (if t110 = (-1) then (some (a0, (⟨#[]⟩ : ByteArray))) else (if 0 ≤ t110 then (if t110 ≤ (a0.size : Int) then (if 0 ≤ (wrap64 (t110 + 1)) then (if (wrap64 (t110 + 1)) ≤ (a0.size : Int) then (some (a0.extract 0 (t110 : Int).toNat, a0.extract ((wrap64 (t110 + 1)) : Int).toNat a0.size)) else (none)) else (none)) else (none)) else (none)))
set_option maxHeartbeats 8000000 in
set_option maxRecDepth 100000 in
theorem fiberhelpers_parseAddr.calls (k : Nat) (a0 : ByteArray) (r1 : ByteArray) (r2 : ByteArray) (w : World) (h : fiberhelpers_parseAddr.f k a0 = some (r1, r2)) :
    Calls Tryd.prog 82 #[.string a0] w fun e w' => e = .returned (.tuple #[.string r1, .string r2]) ∧ Drawn0 w w' := by
  have H : ((strings_LastIndex.f k a0 (⟨#[58]⟩ : ByteArray)).bind fun t110 => (if t110 = (-1) then (some (a0, (⟨#[]⟩ : ByteArray))) else (if 0 ≤ t110 then (if t110 ≤ (a0.size : Int) then (if 0 ≤ (wrap64 (t110 + 1)) then (if (wrap64 (t110 + 1)) ≤ (a0.size : Int) then (some (a0.extract 0 (t110 : Int).toNat, a0.extract ((wrap64 (t110 + 1)) : Int).toNat a0.size)) else (none)) else (none)) else (none)) else (none)))) = some (r1, r2) := h
  clear h
  replace H := Option.bind_eq_some_iff.mp H
  obtain ⟨t110, A20, H⟩ := H
  replace H : (if t110 = (-1) then (some (a0, (⟨#[]⟩ : ByteArray))) else (if 0 ≤ t110 then (if t110 ≤ (a0.size : Int) then (if 0 ≤ (wrap64 (t110 + 1)) then (if (wrap64 (t110 + 1)) ≤ (a0.size : Int) then (some (a0.extract 0 (t110 : Int).toNat, a0.extract ((wrap64 (t110 + 1)) : Int).toNat a0.size)) else (none)) else (none)) else (none)) else (none))) = some (r1, r2) := H
  have A2 := Aside0.mk A20
  clear A20
  by_cases c3 : t110 = (-1)
  · rw [if_pos c3] at H
    have c3b0 : (t110 == (-1)) = true := beq_iff_eq.mpr c3
    have c3b1 : (t110 != (-1)) = false := bne_eq_false_iff_eq.mpr c3
    clear c3
    simp only [Option.some.injEq, Prod.mk.injEq] at H
    obtain ⟨rfl, rfl⟩ := H
    go_enter Tryd.func82, Tryd.ntmps82
    go_wp2_with (first | (go_at_call 99; (with_reducible refine (strings_LastIndex.calls k a0 (⟨#[58]⟩ : ByteArray) t110 _ A2.out).mono ?_); rintro e w' ⟨rfl, ⟨nd, rfl⟩⟩; (try first | exact ⟨rfl, _, World.drewN_drewN _ _ _⟩ | exact ⟨rfl, _, Eq.trans (World.drewN_drewN _ _ _) (congrArg (World.drewN _) (Nat.add_assoc _ _ _))⟩)))
    repeat (go_quiet (first | (go_at_call 99; (with_reducible refine (strings_LastIndex.calls k a0 (⟨#[58]⟩ : ByteArray) t110 _ A2.out).mono ?_); rintro e w' ⟨rfl, ⟨nd, rfl⟩⟩; (try first | exact ⟨rfl, _, World.drewN_drewN _ _ _⟩ | exact ⟨rfl, _, Eq.trans (World.drewN_drewN _ _ _) (congrArg (World.drewN _) (Nat.add_assoc _ _ _))⟩))); try go_wp2_with (first | (go_at_call 99; (with_reducible refine (strings_LastIndex.calls k a0 (⟨#[58]⟩ : ByteArray) t110 _ A2.out).mono ?_); rintro e w' ⟨rfl, ⟨nd, rfl⟩⟩; (try first | exact ⟨rfl, _, World.drewN_drewN _ _ _⟩ | exact ⟨rfl, _, Eq.trans (World.drewN_drewN _ _ _) (congrArg (World.drewN _) (Nat.add_assoc _ _ _))⟩))))
    go_ret2
    exact ⟨by first | rfl | (simp; done) | (rw [prx_ne]; first | done | rfl) | (simp [*]; done), by repeat (first | exact Drawn0.refl _ | apply Drawn0.step)⟩
  · rw [if_neg c3] at H
    have c3b0 : (t110 == (-1)) = false := beq_eq_false_iff_ne.mpr c3
    have c3b1 : (t110 != (-1)) = true := bne_iff_ne.mpr c3
    by_cases c4 : 0 ≤ t110
    · rw [if_pos c4] at H
      have c4b0 := eq_true c4
      have c4b1 : decide (0 ≤ t110) = true := decide_eq_true c4
      clear c4
      by_cases c5 : t110 ≤ (a0.size : Int)
      · rw [if_pos c5] at H
        have c5b0 := eq_true c5
        have c5b1 : decide (t110 ≤ (a0.size : Int)) = true := decide_eq_true c5
        clear c5
        obtain ⟨ji6, hji6⟩ : ∃ j_ : Int, (wrap64 (t110 + 1)) = j_ := ⟨_, rfl⟩
        replace H : (if 0 ≤ (ji6) then (if (ji6) ≤ (a0.size : Int) then (some (a0.extract 0 (t110 : Int).toNat, a0.extract ((ji6) : Int).toNat a0.size)) else (none)) else (none)) = some (r1, r2) := by first | (rw [hji6] at H; exact H) | (simp only [hji6] at H ⊢; exact H)
        (try rw [hji6] at A2)
        have hji6w : (IntKind.i64.wrap (t110 + 1)) = ji6 := (i64_w _).trans hji6
        by_cases c7 : 0 ≤ (ji6)
        · rw [if_pos c7] at H
          have c7b0 := eq_true c7
          have c7b1 : decide (0 ≤ (ji6)) = true := decide_eq_true c7
          clear c7
          by_cases c8 : (ji6) ≤ (a0.size : Int)
          · rw [if_pos c8] at H
            have c8b0 := eq_true c8
            have c8b1 : decide ((ji6) ≤ (a0.size : Int)) = true := decide_eq_true c8
            clear c8
            simp only [Option.some.injEq, Prod.mk.injEq] at H
            obtain ⟨rfl, rfl⟩ := H
            go_enter Tryd.func82, Tryd.ntmps82
            go_wp2_with (first | (go_at_call 99; (with_reducible refine (strings_LastIndex.calls k a0 (⟨#[58]⟩ : ByteArray) t110 _ A2.out).mono ?_); rintro e w' ⟨rfl, ⟨nd, rfl⟩⟩; (try first | exact ⟨rfl, _, World.drewN_drewN _ _ _⟩ | exact ⟨rfl, _, Eq.trans (World.drewN_drewN _ _ _) (congrArg (World.drewN _) (Nat.add_assoc _ _ _))⟩)))
            repeat (go_quiet (first | (go_at_call 99; (with_reducible refine (strings_LastIndex.calls k a0 (⟨#[58]⟩ : ByteArray) t110 _ A2.out).mono ?_); rintro e w' ⟨rfl, ⟨nd, rfl⟩⟩; (try first | exact ⟨rfl, _, World.drewN_drewN _ _ _⟩ | exact ⟨rfl, _, Eq.trans (World.drewN_drewN _ _ _) (congrArg (World.drewN _) (Nat.add_assoc _ _ _))⟩))); try go_wp2_with (first | (go_at_call 99; (with_reducible refine (strings_LastIndex.calls k a0 (⟨#[58]⟩ : ByteArray) t110 _ A2.out).mono ?_); rintro e w' ⟨rfl, ⟨nd, rfl⟩⟩; (try first | exact ⟨rfl, _, World.drewN_drewN _ _ _⟩ | exact ⟨rfl, _, Eq.trans (World.drewN_drewN _ _ _) (congrArg (World.drewN _) (Nat.add_assoc _ _ _))⟩))))
            go_ret2
            exact ⟨by first | rfl | (simp; done) | (simp only [← hji6] <;> (first | rfl | simp)) | (rw [prx_ne]; first | done | rfl) | (simp [*]; done), by repeat (first | exact Drawn0.refl _ | apply Drawn0.step)⟩
          · rw [if_neg c8] at H
            exact absurd H (by simp)
        · rw [if_neg c7] at H
          exact absurd H (by simp)
      · rw [if_neg c5] at H
        exact absurd H (by simp)
    · rw [if_neg c4] at H
      exact absurd H (by simp)
def fiberhelpers_ZzAddr.f (k : Nat) (a0 : ByteArray) : Option (ByteArray × ByteArray) := (fiberhelpers_parseAddr.f k a0).bind fun bt111 => (some (bt111.1, bt111.2))
set_option maxHeartbeats 8000000 in
set_option maxRecDepth 100000 in
theorem fiberhelpers_ZzAddr.calls (k : Nat) (a0 : ByteArray) (r1 : ByteArray) (r2 : ByteArray) (w : World) (h : fiberhelpers_ZzAddr.f k a0 = some (r1, r2)) :
    Calls Tryd.prog 54 #[.string a0] w fun e w' => e = .returned (.tuple #[.string r1, .string r2]) ∧ Drawn0 w w' := by
  have H : ((fiberhelpers_parseAddr.f k a0).bind fun bt111 => (some (bt111.1, bt111.2))) = some (r1, r2) := h
  clear h
  replace H := Option.bind_eq_some_iff.mp H
  obtain ⟨⟨t111, t112⟩, A20, H⟩ := H
  replace H : (some (t111, t112)) = some (r1, r2) := H
  have A2 := Aside0.mk A20
  clear A20
  simp only [Option.some.injEq, Prod.mk.injEq] at H
  obtain ⟨rfl, rfl⟩ := H
  go_enter Tryd.func54, Tryd.ntmps54
  go_wp2_with (first | ((with_reducible refine gate_callee (f := 82) rfl ?_); refine goesL_ (some 5) rfl rfl Tryd.func82 (by kernel_rfl) rfl #[.string a0] rfl (by (try simp only [List.map_toArray, List.map_cons, List.map_nil]); first | done | rfl | (simp only [List.length_drop, List.length_take]; rfl)) ?_; (with_reducible refine (fiberhelpers_parseAddr.calls k a0 t111 t112 _ A2.out).mono ?_); rintro e w' ⟨rfl, ⟨nd, rfl⟩⟩; refine ⟨_, rfl, ?_⟩))
  go_ret2
  exact ⟨by first | rfl | (simp; done) | (rw [prx_ne]; first | done | rfl) | (simp [*]; done), by repeat (first | exact Drawn0.refl _ | apply Drawn0.step)⟩
def impl_Addr.f (k : Nat) (a0 : ByteArray) : Option (ByteArray × ByteArray) := (fiberhelpers_ZzAddr.f k a0).bind fun bt113 => (some (bt113.1, bt113.2))
set_option maxHeartbeats 8000000 in
set_option maxRecDepth 100000 in
theorem impl_Addr.calls (k : Nat) (a0 : ByteArray) (r1 : ByteArray) (r2 : ByteArray) (w : World) (h : impl_Addr.f k a0 = some (r1, r2)) :
    Calls Tryd.prog 15 #[.string a0] w fun e w' => e = .returned (.tuple #[.string r1, .string r2]) ∧ Drawn0 w w' := by
  have H : ((fiberhelpers_ZzAddr.f k a0).bind fun bt113 => (some (bt113.1, bt113.2))) = some (r1, r2) := h
  clear h
  replace H := Option.bind_eq_some_iff.mp H
  obtain ⟨⟨t113, t114⟩, A20, H⟩ := H
  replace H : (some (t113, t114)) = some (r1, r2) := H
  have A2 := Aside0.mk A20
  clear A20
  simp only [Option.some.injEq, Prod.mk.injEq] at H
  obtain ⟨rfl, rfl⟩ := H
  go_enter Tryd.func15, Tryd.ntmps15
  go_wp2_with (first | ((with_reducible refine gate_callee (f := 54) rfl ?_); refine goesL_ (some 5) rfl rfl Tryd.func54 (by kernel_rfl) rfl #[.string a0] rfl (by (try simp only [List.map_toArray, List.map_cons, List.map_nil]); first | done | rfl | (simp only [List.length_drop, List.length_take]; rfl)) ?_; (with_reducible refine (fiberhelpers_ZzAddr.calls k a0 t113 t114 _ A2.out).mono ?_); rintro e w' ⟨rfl, ⟨nd, rfl⟩⟩; refine ⟨_, rfl, ?_⟩))
  go_ret2
  exact ⟨by first | rfl | (simp; done) | (rw [prx_ne]; first | done | rfl) | (simp [*]; done), by repeat (first | exact Drawn0.refl _ | apply Drawn0.step)⟩
def impl_EtagStale.f (a0 : ByteArray) (a1 : ByteArray) : Option (Bool) := (fiberhelpers_ZzStale.f a0 a1).bind fun t121 => (some t121)
set_option maxHeartbeats 8000000 in
set_option maxRecDepth 100000 in
theorem impl_EtagStale.calls (a0 : ByteArray) (a1 : ByteArray) (r : Bool) (w : World) (h : impl_EtagStale.f a0 a1 = some r) :
    Calls Tryd.prog 20 #[.string a0, .string a1] w fun e w' => e = .returned (.bool r) ∧ Below w.heap.size w w' := by
  have HB := Aside0.mk (Below.refl w.heap.size w)
  have H : ((fiberhelpers_ZzStale.f a0 a1).bind fun t121 => (some t121)) = some r := h
  clear h
  replace H := Option.bind_eq_some_iff.mp H
  obtain ⟨t121, A30, H⟩ := H
  replace H : (some t121) = some r := H
  have A3 := Aside0.mk A30
  clear A30
  obtain rfl := Option.some.inj H
  go_enter Tryd.func20, Tryd.ntmps20
  go_wp2_with (first | ((with_reducible refine gate_callee (f := 56) rfl ?_); refine goesL_ (some 7) rfl rfl Tryd.func56 (by kernel_rfl) rfl #[.string a0, .string a1] rfl (by (try simp only [List.map_toArray, List.map_cons, List.map_nil]); first | done | rfl | (simp only [List.length_drop, List.length_take]; rfl)) ?_; (with_reducible refine (fiberhelpers_ZzStale.calls a0 a1 t121 _ A3.out).mono ?_); rintro e w4 ⟨rfl, hb⟩; refine ⟨_, rfl, ?_⟩; have n0_ := Aside0.mk (below_step (by repeat (first | (with_reducible first | exact HB.out | apply below_alloc | apply pw_below_drewN | apply below_drew1) | exact HB.out)) hb); clear HB; have HB := n0_; clear n0_; (try clear hb); (try clear hb2); (try clear hk); (try clear hi)))
  go_ret
  exact ⟨by first | rfl | (simp [errW_none, errW_some] <;> rfl) | (simp [*, errW_none, errW_some] <;> rfl), by repeat (first | (with_reducible first | exact HB.out | apply below_alloc | apply pw_below_drewN | apply below_drew1) | exact HB.out)⟩
def spec_ahead.l0 : Nat → ByteArray → Option (ByteArray)
  | 0, _ => none
  | k + 1, x0 => if x0.toList = ([] : List UInt8) then (some x0) else (if 0 < (x0.size : Int) then (if (bt x0 0) = 32 then (if 1 ≤ (x0.size : Int) then (spec_ahead.l0 k (x0.extract 1 x0.size)) else (none)) else (some x0)) else (none))
def spec_ahead.f (k : Nat) (a0 : ByteArray) : Option (ByteArray) := spec_ahead.l0 k a0
set_option maxHeartbeats 8000000 in
set_option maxRecDepth 100000 in
theorem spec_ahead.calls (k : Nat) (a0 : ByteArray) (r : ByteArray) (w : World) (h : spec_ahead.f k a0 = some r) :
    Calls Tryd.prog 59 #[.string a0] w fun e w' => e = .returned (.string r) ∧ Drawn0 w w' := by
  have H : (spec_ahead.l0 k a0) = some r := h
  clear h
  have H' := Aside0.mk H
  clear H
  go_enter Tryd.func59, Tryd.ntmps59
  go_wp2
  go_loopg [0] k (fun kq v0 w' => ∃ (x0_1 : ByteArray), v0 = .string x0_1 ∧ Aside0 (spec_ahead.l0 kq x0_1 = some r) ∧ Aside0 (kq ≤ k) ∧ Drawn0 w w')
  case atStart => exact ⟨(a0), (by first | rfl | (simp; done) | (rw [prx_ne]; first | done | rfl) | (simp [*]; done)), H', ⟨Nat.le_refl _⟩, by repeat (first | exact Drawn0.refl _ | apply Drawn0.step)⟩
  case round =>
    clear H'
    obtain ⟨x0_1, rfl, HA, HK1, ⟨m1, rfl⟩⟩ := hrel
    cases gk with
    | zero => exact absurd HA.out (by simp [spec_ahead.l0])
    | succ k1 =>
      have H := HA.out
      clear HA
      simp only [spec_ahead.l0] at H
      by_cases c2 : x0_1.toList = ([] : List UInt8)
      · rw [if_pos c2] at H
        have c2b0 : (x0_1.toList == ([] : List UInt8)) = true := beq_iff_eq.mpr c2
        have c2b1 : (x0_1.toList != ([] : List UInt8)) = false := bne_eq_false_iff_eq.mpr c2
        clear c2
        obtain rfl := Option.some.inj H
        go_wp2
        go_ret
        exact ⟨by first | rfl | (simp; done) | (rw [prx_ne]; first | done | rfl) | (simp [*]; done), by repeat (first | exact Drawn0.refl _ | apply Drawn0.step)⟩
      · rw [if_neg c2] at H
        have c2b0 : (x0_1.toList == ([] : List UInt8)) = false := beq_eq_false_iff_ne.mpr c2
        have c2b1 : (x0_1.toList != ([] : List UInt8)) = true := bne_iff_ne.mpr c2
        by_cases c3 : 0 < (x0_1.size : Int)
        · rw [if_pos c3] at H
          have c3b0 : decide (0 < (x0_1.size : Int)) = true := decide_eq_true c3
          have c3b1 : decide (0 < x0_1.size) = true := decide_eq_true (by omega)
          clear c3
          by_cases c5 : (bt x0_1 0) = 32
          · rw [if_pos c5] at H
            have c5b0 : ((bt x0_1 0) == 32) = true := beq_iff_eq.mpr c5
            have c5b1 : ((bt x0_1 0) != 32) = false := bne_eq_false_iff_eq.mpr c5
            clear c5
            by_cases c6 : 1 ≤ (x0_1.size : Int)
            · rw [if_pos c6] at H
              have c6b0 := eq_true c6
              have c6b1 : decide (1 ≤ (x0_1.size : Int)) = true := decide_eq_true c6
              clear c6
              have H' := Aside0.mk H
              clear H
              have p4 : 0 ≤ (0 : Int) := (by omega)
              have q4 : 0 < x0_1.size := (by have : (0 : Int) < (x0_1.size : Int) := of_decide_eq_true (by first | (with_reducible assumption) | assumption); omega)
              have hx4 : ∀ h : 0 < x0_1.size, ((x0_1[0]'h).toNat : Int) = bt x0_1 0 := bt_at x0_1 0
              clear p4
              have qi4 : (0 < (x0_1.size : Int)) = True := eq_true (of_decide_eq_true (by first | (with_reducible assumption) | assumption))
              replace q4 := eq_true q4
              go_wp2
              go_roundg k1
              case measure => have := HK1.out; omega
              case rel => exact ⟨(x0_1.extract 1 x0_1.size), (by first | rfl | (simp; done) | (rw [prx_ne]; first | done | rfl) | (simp [*]; done)), H', ⟨by have := HK1.out; omega⟩, by repeat (first | exact Drawn0.refl _ | apply Drawn0.step)⟩
            · rw [if_neg c6] at H
              exact absurd H (by simp)
          · rw [if_neg c5] at H
            have c5b0 : ((bt x0_1 0) == 32) = false := beq_eq_false_iff_ne.mpr c5
            have c5b1 : ((bt x0_1 0) != 32) = true := bne_iff_ne.mpr c5
            obtain rfl := Option.some.inj H
            have p4 : 0 ≤ (0 : Int) := (by omega)
            have q4 : 0 < x0_1.size := (by have : (0 : Int) < (x0_1.size : Int) := of_decide_eq_true (by first | (with_reducible assumption) | assumption); omega)
            have hx4 : ∀ h : 0 < x0_1.size, ((x0_1[0]'h).toNat : Int) = bt x0_1 0 := bt_at x0_1 0
            clear p4
            have qi4 : (0 < (x0_1.size : Int)) = True := eq_true (of_decide_eq_true (by first | (with_reducible assumption) | assumption))
            replace q4 := eq_true q4
            go_wp2
            go_ret
            exact ⟨by first | rfl | (simp; done) | (rw [prx_ne]; first | done | rfl) | (simp [*]; done), by repeat (first | exact Drawn0.refl _ | apply Drawn0.step)⟩
        · rw [if_neg c3] at H
          exact absurd H (by simp)
def spec_around.l0 : Nat → ByteArray → Option (ByteArray)
  | 0, _ => none
  | k + 1, x0 => if x0.toList = ([] : List UInt8) then (some x0) else (if 0 ≤ (wrap64 ((x0.size : Int) - 1)) then (if (wrap64 ((x0.size : Int) - 1)) < (x0.size : Int) then (if (bt x0 (wrap64 ((x0.size : Int) - 1))) = 32 then (if (wrap64 ((x0.size : Int) - 1)) ≤ (x0.size : Int) then (spec_around.l0 k (x0.extract 0 ((wrap64 ((x0.size : Int) - 1)) : Int).toNat)) else (none)) else (some x0)) else (none)) else (none))
def spec_around.f (k : Nat) (a0 : ByteArray) : Option (ByteArray) := (spec_ahead.f k a0).bind fun t122 => (spec_around.l0 k t122)
set_option maxHeartbeats 8000000 in
set_option maxRecDepth 100000 in
theorem spec_around.calls (k : Nat) (a0 : ByteArray) (r : ByteArray) (w : World) (h : spec_around.f k a0 = some r) :
    Calls Tryd.prog 57 #[.string a0] w fun e w' => e = .returned (.string r) ∧ Drawn0 w w' := by
  have H : ((spec_ahead.f k a0).bind fun t122 => (spec_around.l0 k t122)) = some r := h
  clear h
  replace H := Option.bind_eq_some_iff.mp H
  obtain ⟨t122, A20, H⟩ := H
  replace H : (spec_around.l0 k t122) = some r := H
  have A2 := Aside0.mk A20
  clear A20
  have H' := Aside0.mk H
  clear H
  go_enter Tryd.func57, Tryd.ntmps57
  go_wp2_with (first | ((with_reducible refine gate_callee (f := 59) rfl ?_); refine goesL_ (some 4) rfl rfl Tryd.func59 (by kernel_rfl) rfl #[.string a0] rfl (by (try simp only [List.map_toArray, List.map_cons, List.map_nil]); first | done | rfl | (simp only [List.length_drop, List.length_take]; rfl)) ?_; (with_reducible refine (spec_ahead.calls k a0 t122 _ A2.out).mono ?_); rintro e w' ⟨rfl, ⟨nd, rfl⟩⟩; refine ⟨_, rfl, ?_⟩))
  go_loopg [0] k (fun kq v0 w' => ∃ (x0_1 : ByteArray), v0 = .string x0_1 ∧ Aside0 (spec_around.l0 kq x0_1 = some r) ∧ Aside0 (kq ≤ k) ∧ Drawn0 w w')
  case atStart => exact ⟨(t122), (by first | rfl | (simp; done) | (rw [prx_ne]; first | done | rfl) | (simp [*]; done)), H', ⟨Nat.le_refl _⟩, by repeat (first | exact Drawn0.refl _ | apply Drawn0.step)⟩
  case round =>
    clear H'
    try clear p2
    obtain ⟨x0_1, rfl, HA, HK1, ⟨m1, rfl⟩⟩ := hrel
    cases gk with
    | zero => exact absurd HA.out (by simp [spec_around.l0])
    | succ k1 =>
      have H := HA.out
      clear HA
      simp only [spec_around.l0] at H
      by_cases c3 : x0_1.toList = ([] : List UInt8)
      · rw [if_pos c3] at H
        have c3b0 : (x0_1.toList == ([] : List UInt8)) = true := beq_iff_eq.mpr c3
        have c3b1 : (x0_1.toList != ([] : List UInt8)) = false := bne_eq_false_iff_eq.mpr c3
        clear c3
        obtain rfl := Option.some.inj H
        go_wp2
        go_ret
        exact ⟨by first | rfl | (simp; done) | (rw [prx_ne]; first | done | rfl) | (simp [*]; done), by repeat (first | exact Drawn0.refl _ | apply Drawn0.step)⟩
      · rw [if_neg c3] at H
        have c3b0 : (x0_1.toList == ([] : List UInt8)) = false := beq_eq_false_iff_ne.mpr c3
        have c3b1 : (x0_1.toList != ([] : List UInt8)) = true := bne_iff_ne.mpr c3
        obtain ⟨ji4, hji4⟩ : ∃ j_ : Int, (wrap64 ((x0_1.size : Int) - 1)) = j_ := ⟨_, rfl⟩
        replace H : (if 0 ≤ (ji4) then (if (ji4) < (x0_1.size : Int) then (if (bt x0_1 (ji4)) = 32 then (if (ji4) ≤ (x0_1.size : Int) then (spec_around.l0 k1 (x0_1.extract 0 ((ji4) : Int).toNat)) else (none)) else (some x0_1)) else (none)) else (none)) = some r := by first | (rw [hji4] at H; exact H) | (simp only [hji4] at H ⊢; exact H)
        have hji4w : (IntKind.i64.wrap ((x0_1.size : Int) - 1)) = ji4 := (i64_w _).trans hji4
        by_cases c5 : 0 ≤ (ji4)
        · rw [if_pos c5] at H
          have c5b0 : decide (0 ≤ (ji4)) = true := decide_eq_true c5
          clear c5
          by_cases c6 : (ji4) < (x0_1.size : Int)
          · rw [if_pos c6] at H
            have c6b0 : decide ((ji4) < (x0_1.size : Int)) = true := decide_eq_true c6
            clear c6
            by_cases c8 : (bt x0_1 (ji4)) = 32
            · rw [if_pos c8] at H
              have c8b0 : ((bt x0_1 (ji4)) == 32) = true := beq_iff_eq.mpr c8
              have c8b1 : ((bt x0_1 (ji4)) != 32) = false := bne_eq_false_iff_eq.mpr c8
              clear c8
              have c9b0 := eq_true (of_decide_eq_true (by first | (with_reducible assumption) | assumption) : 0 ≤ (ji4))
              by_cases c10 : (ji4) ≤ (x0_1.size : Int)
              · rw [if_pos c10] at H
                have c10b0 := eq_true c10
                have c10b1 : decide ((ji4) ≤ (x0_1.size : Int)) = true := decide_eq_true c10
                clear c10
                have H' := Aside0.mk H
                clear H
                have p7 : 0 ≤ ((ji4) : Int) := of_decide_eq_true (by first | (with_reducible assumption) | assumption)
                have q7 : (ji4) < (x0_1.size : Int) := of_decide_eq_true (by first | (with_reducible assumption) | assumption)
                have hx7 := bt_at x0_1 (ji4)
                replace p7 := eq_true p7
                replace q7 := eq_true q7
                go_wp2
                go_roundg k1
                case measure => have := HK1.out; omega
                case rel => exact ⟨(x0_1.extract 0 ((ji4) : Int).toNat), (by first | rfl | (simp; done) | (simp only [← hji4] <;> (first | rfl | simp)) | (rw [prx_ne]; first | done | rfl) | (simp [*]; done)), H', ⟨by have := HK1.out; omega⟩, by repeat (first | exact Drawn0.refl _ | apply Drawn0.step)⟩
              · rw [if_neg c10] at H
                exact absurd H (by simp)
            · rw [if_neg c8] at H
              have c8b0 : ((bt x0_1 (ji4)) == 32) = false := beq_eq_false_iff_ne.mpr c8
              have c8b1 : ((bt x0_1 (ji4)) != 32) = true := bne_iff_ne.mpr c8
              obtain rfl := Option.some.inj H
              have p7 : 0 ≤ ((ji4) : Int) := of_decide_eq_true (by first | (with_reducible assumption) | assumption)
              have q7 : (ji4) < (x0_1.size : Int) := of_decide_eq_true (by first | (with_reducible assumption) | assumption)
              have hx7 := bt_at x0_1 (ji4)
              replace p7 := eq_true p7
              replace q7 := eq_true q7
              go_wp2
              go_ret
              exact ⟨by first | rfl | (simp; done) | (simp only [← hji4] <;> (first | rfl | simp)) | (rw [prx_ne]; first | done | rfl) | (simp [*]; done), by repeat (first | exact Drawn0.refl _ | apply Drawn0.step)⟩
          · rw [if_neg c6] at H
            exact absurd H (by simp)
        · rw [if_neg c5] at H
          exact absurd H (by simp)
end Go.Proofs.YtgmjaggkiifdjaaDoor.QA
namespace Go.Proofs.YtgmjaggkiifdjaaDoor.QA
open Go.Proofs.YtgmjaggkiifdjaaDoor.Given
open Go.Proofs.YtgmjaggkiifdjaaDoor.PrX
open Go.RowKit Go.Proofs.YtgmjaggkiifdjaaDoorW.PrintWords Go.Proofs.YtgmjaggkiifdjaaDoorW.PrintLast Go.Proofs.YtgmjaggkiifdjaaDoorW.PrintMore
mutual
def spec_EtagStale.l0 : Nat → ByteArray → ByteArray → Int → Int → Option (Bool)
  | 0, _, _, _, _ => none
  | k + 1, x0, x1, x5, x6 => if x6 ≤ (x1.size : Int) then (if x6 = (x1.size : Int) then (spec_EtagStale.j1 k x0 x1 x5 x6 true) else (if 0 ≤ x6 then (if x6 < (x1.size : Int) then (spec_EtagStale.j1 k x0 x1 x5 x6 ((bt x1 x6) == 44)) else (none)) else (none))) else (some true)
def spec_EtagStale.j1 : Nat → ByteArray → ByteArray → Int → Int → Bool → Option (Bool)
  | 0, _, _, _, _, _ => none
  | k + 1, x0, x1, x5, x6, x22 => if x22 = true then (if 0 ≤ x5 then (if x5 ≤ x6 then (if x6 ≤ (x1.size : Int) then ((spec_around.f k (x1.extract (x5 : Int).toNat (x6 : Int).toNat)).bind fun t123 => ((spec_EtagMatch.f t123 x0).bind fun t124 => (if t124 = true then (some false) else (spec_EtagStale.l0 k x0 x1 (wrap64 (x6 + 1)) (wrap64 (x6 + 1)))))) else (none)) else (none)) else (none)) else (spec_EtagStale.l0 k x0 x1 x5 (wrap64 (x6 + 1)))
end
def spec_EtagStale.f (k : Nat) (a0 : ByteArray) (a1 : ByteArray) : Option (Bool) := spec_EtagStale.l0 k a0 a1 0 0
set_option maxHeartbeats 8000000 in
set_option maxRecDepth 100000 in
theorem spec_EtagStale.calls (k : Nat) (a0 : ByteArray) (a1 : ByteArray) (r : Bool) (w : World) (h : spec_EtagStale.f k a0 a1 = some r) :
    Calls Tryd.prog 21 #[.string a0, .string a1] w fun e w' => e = .returned (.bool r) ∧ Drawn0 w w' := by
  have H : (spec_EtagStale.l0 k a0 a1 0 0) = some r := h
  clear h
  have H' := Aside0.mk H
  clear H
  go_enter Tryd.func21, Tryd.ntmps21
  go_wp2
  go_loopg [5, 6] k (fun kq v5 v6 w' => ∃ (x5_1 : Int) (x6_1 : Int), v5 = .int .i64 x5_1 ∧ v6 = .int .i64 x6_1 ∧ Aside0 (spec_EtagStale.l0 kq a0 a1 x5_1 x6_1 = some r) ∧ Aside0 (kq ≤ k) ∧ Drawn0 w w')
  case atStart => exact ⟨(0), (0), (by first | rfl | (simp; done) | (rw [prx_ne]; first | done | rfl) | (simp [*]; done)), (by first | rfl | (simp; done) | (rw [prx_ne]; first | done | rfl) | (simp [*]; done)), H', ⟨Nat.le_refl _⟩, by repeat (first | exact Drawn0.refl _ | apply Drawn0.step)⟩
  case round =>
    clear H'
    try clear c2
    try clear p2
    obtain ⟨x5_1, x6_1, rfl, rfl, HA, HK1, ⟨m1, rfl⟩⟩ := hrel
    cases gk with
    | zero => exact absurd HA.out (by simp [spec_EtagStale.l0])
    | succ k1 =>
      have H := HA.out
      clear HA
      simp only [spec_EtagStale.l0] at H
      by_cases c3 : x6_1 ≤ (a1.size : Int)
      · rw [if_pos c3] at H
        have c3b0 : decide (x6_1 ≤ (a1.size : Int)) = true := decide_eq_true c3
        clear c3
        have HC4 := Aside0.mk H
        clear H
        go_upto_region 5 with (fail)
        go_cut [22] (fun v22 wc => ∃ (kq : Nat) (x22_3 : Bool), v22 = .bool x22_3 ∧ Aside0 (spec_EtagStale.j1 kq a0 a1 x5_1 x6_1 x22_3 = some r) ∧ Aside0 (kq ≤ k1) ∧ Drawn0 w wc)
        case first =>
          have H := HC4.out
          clear HC4
          by_cases c5 : x6_1 = (a1.size : Int)
          · rw [if_pos c5] at H
            have c5b0 : (x6_1 == (a1.size : Int)) = true := beq_iff_eq.mpr c5
            have c5b1 : (x6_1 != (a1.size : Int)) = false := bne_eq_false_iff_eq.mpr c5
            clear c5
            (first | rw [c5b0] | (simp only [i64_w, i32_w]; rw [c5b0]) | skip)
            have H' := Aside0.mk H
            clear H
            go_wp2
            go_meet
            case rel => exact ⟨_, (true), (by first | rfl | (simp; done) | (rw [prx_ne]; first | done | rfl) | (simp [*]; done)), H', ⟨by have := HK1.out; first | omega | exact Nat.le_refl _⟩, by repeat (first | exact Drawn0.refl _ | apply Drawn0.step)⟩
          · rw [if_neg c5] at H
            have c5b0 : (x6_1 == (a1.size : Int)) = false := beq_eq_false_iff_ne.mpr c5
            have c5b1 : (x6_1 != (a1.size : Int)) = true := bne_iff_ne.mpr c5
            (first | rw [c5b0] | (simp only [i64_w, i32_w]; rw [c5b0]) | skip)
            by_cases c6 : 0 ≤ x6_1
            · rw [if_pos c6] at H
              have c6b0 : decide (0 ≤ x6_1) = true := decide_eq_true c6
              clear c6
              by_cases c7 : x6_1 < (a1.size : Int)
              · rw [if_pos c7] at H
                have c7b0 : decide (x6_1 < (a1.size : Int)) = true := decide_eq_true c7
                clear c7
                have H' := Aside0.mk H
                clear H
                have p8 : 0 ≤ (x6_1 : Int) := of_decide_eq_true (by first | (with_reducible assumption) | assumption)
                have q8 : x6_1 < (a1.size : Int) := of_decide_eq_true (by first | (with_reducible assumption) | assumption)
                have hx8 := bt_at a1 x6_1
                replace p8 := eq_true p8
                replace q8 := eq_true q8
                go_wp2
                go_meet
                case rel => exact ⟨_, (((bt a1 x6_1) == 44)), (by first | rfl | (simp; done) | (rw [prx_ne]; first | done | rfl) | (simp [*]; done)), H', ⟨by have := HK1.out; first | omega | exact Nat.le_refl _⟩, by repeat (first | exact Drawn0.refl _ | apply Drawn0.step)⟩
              · rw [if_neg c7] at H
                exact absurd H (by simp)
            · rw [if_neg c6] at H
              exact absurd H (by simp)
        case rest =>
          clear HC4
          try clear c2
          try clear p2
          try clear c3
          try clear c3b0
          try clear c5
          try clear c5b0
          try clear c5b1
          try clear c6
          try clear c6b0
          try clear c7
          try clear c7b0
          try clear p8
          try clear q8
          try clear hx8
          try clear p2
          try clear p8
          try clear q8
          obtain ⟨kq, x22_3, rfl, HA, HJ3, ⟨mc3, rfl⟩⟩ := hcut
          cases kq with
          | zero => exact absurd HA.out (by simp [spec_EtagStale.j1])
          | succ kj3 =>
            have H := HA.out
            clear HA
            simp only [spec_EtagStale.j1] at H
            by_cases c9 : x22_3 = true
            · subst c9
              have H1 : (if 0 ≤ x5_1 then (if x5_1 ≤ x6_1 then (if x6_1 ≤ (a1.size : Int) then ((spec_around.f kj3 (a1.extract (x5_1 : Int).toNat (x6_1 : Int).toNat)).bind fun t123 => ((spec_EtagMatch.f t123 a0).bind fun t124 => (if t124 = true then (some false) else (spec_EtagStale.l0 kj3 a0 a1 (wrap64 (x6_1 + 1)) (wrap64 (x6_1 + 1)))))) else (none)) else (none)) else (none)) = some r := by rw [if_pos rfl] at H; exact H
              clear H
              have H := H1
              clear H1
              by_cases c10 : 0 ≤ x5_1
              · rw [if_pos c10] at H
                have c10b0 := eq_true c10
                have c10b1 : decide (0 ≤ x5_1) = true := decide_eq_true c10
                clear c10
                by_cases c11 : x5_1 ≤ x6_1
                · rw [if_pos c11] at H
                  have c11b0 := eq_true c11
                  have c11b1 : decide (x5_1 ≤ x6_1) = true := decide_eq_true c11
                  clear c11
                  by_cases c12 : x6_1 ≤ (a1.size : Int)
                  · rw [if_pos c12] at H
                    have c12b0 := eq_true c12
                    have c12b1 : decide (x6_1 ≤ (a1.size : Int)) = true := decide_eq_true c12
                    clear c12
                    replace H := Option.bind_eq_some_iff.mp H
                    obtain ⟨t123, A130, H⟩ := H
                    replace H : ((spec_EtagMatch.f t123 a0).bind fun t124 => (if t124 = true then (some false) else (spec_EtagStale.l0 kj3 a0 a1 (wrap64 (x6_1 + 1)) (wrap64 (x6_1 + 1))))) = some r := H
                    have A13 := Aside0.mk A130
                    clear A130
                    replace H := Option.bind_eq_some_iff.mp H
                    obtain ⟨t124, A140, H⟩ := H
                    replace H : (if t124 = true then (some false) else (spec_EtagStale.l0 kj3 a0 a1 (wrap64 (x6_1 + 1)) (wrap64 (x6_1 + 1)))) = some r := H
                    have A14 := Aside0.mk A140
                    clear A140
                    by_cases c15 : t124 = true
                    · subst c15
                      have H1 : (some false) = some r := by rw [if_pos rfl] at H; exact H
                      clear H
                      have H := H1
                      clear H1
                      obtain rfl := Option.some.inj H
                      go_wp2_with (first | ((with_reducible refine gate_callee (f := 57) rfl ?_); refine goesL_ (some 27) rfl rfl Tryd.func57 (by kernel_rfl) rfl #[.string (a1.extract (x5_1 : Int).toNat (x6_1 : Int).toNat)] rfl (by (try simp only [List.map_toArray, List.map_cons, List.map_nil]); first | done | rfl | (simp only [List.length_drop, List.length_take]; rfl)) ?_; (with_reducible refine (spec_around.calls kj3 (a1.extract (x5_1 : Int).toNat (x6_1 : Int).toNat) t123 _ A13.out).mono ?_); rintro e w' ⟨rfl, ⟨nd, rfl⟩⟩; refine ⟨_, rfl, ?_⟩) | ((with_reducible refine gate_callee (f := 19) rfl ?_); refine goesL_ (some 29) rfl rfl Tryd.func19 (by kernel_rfl) rfl #[.string t123, .string a0] rfl (by (try simp only [List.map_toArray, List.map_cons, List.map_nil]); first | done | rfl | (simp only [List.length_drop, List.length_take]; rfl)) ?_; (with_reducible refine (spec_EtagMatch.calls t123 a0 true _ A14.out).mono ?_); rintro e w' ⟨rfl, ⟨nd, rfl⟩⟩; refine ⟨_, rfl, ?_⟩))
                      go_ret
                      exact ⟨by first | rfl | (simp; done) | (rw [prx_ne]; first | done | rfl) | (simp [*]; done), by repeat (first | exact Drawn0.refl _ | apply Drawn0.step)⟩
                    · replace c15 := Bool.eq_false_iff.mpr c15
                      subst c15
                      have H1 : (spec_EtagStale.l0 kj3 a0 a1 (wrap64 (x6_1 + 1)) (wrap64 (x6_1 + 1))) = some r := by rw [if_neg (show ¬ (false = true) by decide)] at H; exact H
                      clear H
                      have H := H1
                      clear H1
                      have H' := Aside0.mk H
                      clear H
                      go_wp2_with (first | ((with_reducible refine gate_callee (f := 57) rfl ?_); refine goesL_ (some 27) rfl rfl Tryd.func57 (by kernel_rfl) rfl #[.string (a1.extract (x5_1 : Int).toNat (x6_1 : Int).toNat)] rfl (by (try simp only [List.map_toArray, List.map_cons, List.map_nil]); first | done | rfl | (simp only [List.length_drop, List.length_take]; rfl)) ?_; (with_reducible refine (spec_around.calls kj3 (a1.extract (x5_1 : Int).toNat (x6_1 : Int).toNat) t123 _ A13.out).mono ?_); rintro e w' ⟨rfl, ⟨nd, rfl⟩⟩; refine ⟨_, rfl, ?_⟩) | ((with_reducible refine gate_callee (f := 19) rfl ?_); refine goesL_ (some 29) rfl rfl Tryd.func19 (by kernel_rfl) rfl #[.string t123, .string a0] rfl (by (try simp only [List.map_toArray, List.map_cons, List.map_nil]); first | done | rfl | (simp only [List.length_drop, List.length_take]; rfl)) ?_; (with_reducible refine (spec_EtagMatch.calls t123 a0 false _ A14.out).mono ?_); rintro e w' ⟨rfl, ⟨nd, rfl⟩⟩; refine ⟨_, rfl, ?_⟩))
                      go_roundg kj3
                      case measure => have := HK1.out; have := HJ3.out; omega
                      case rel => exact ⟨(wrap64 (x6_1 + 1)), (wrap64 (x6_1 + 1)), (by first | rfl | (simp; done) | (rw [prx_ne]; first | done | rfl) | (simp [*]; done)), (by first | rfl | (simp; done) | (rw [prx_ne]; first | done | rfl) | (simp [*]; done)), H', ⟨by have := HK1.out; have := HJ3.out; omega⟩, by repeat (first | exact Drawn0.refl _ | apply Drawn0.step)⟩
                  · rw [if_neg c12] at H
                    exact absurd H (by simp)
                · rw [if_neg c11] at H
                  exact absurd H (by simp)
              · rw [if_neg c10] at H
                exact absurd H (by simp)
            · replace c9 := Bool.eq_false_iff.mpr c9
              subst c9
              have H1 : (spec_EtagStale.l0 kj3 a0 a1 x5_1 (wrap64 (x6_1 + 1))) = some r := by rw [if_neg (show ¬ (false = true) by decide)] at H; exact H
              clear H
              have H := H1
              clear H1
              have H' := Aside0.mk H
              clear H
              go_wp2
              go_roundg kj3
              case measure => have := HK1.out; have := HJ3.out; omega
              case rel => exact ⟨(x5_1), (wrap64 (x6_1 + 1)), (by first | rfl | (simp; done) | (rw [prx_ne]; first | done | rfl) | (simp [*]; done)), (by first | rfl | (simp; done) | (rw [prx_ne]; first | done | rfl) | (simp [*]; done)), H', ⟨by have := HK1.out; have := HJ3.out; omega⟩, by repeat (first | exact Drawn0.refl _ | apply Drawn0.step)⟩
      · rw [if_neg c3] at H
        have c3b0 : decide (x6_1 ≤ (a1.size : Int)) = false := decide_eq_false c3
        clear c3
        obtain rfl := Option.some.inj H
        go_wp2
        go_ret
        exact ⟨by first | rfl | (simp; done) | (rw [prx_ne]; first | done | rfl) | (simp [*]; done), by repeat (first | exact Drawn0.refl _ | apply Drawn0.step)⟩
end Go.Proofs.YtgmjaggkiifdjaaDoor.QA
namespace Go.Proofs.YtgmjaggkiifdjaaDoor.QA
open Go.Proofs.YtgmjaggkiifdjaaDoor.Given
open Go.Proofs.YtgmjaggkiifdjaaDoor.PrX
open Go.RowKit Go.Proofs.YtgmjaggkiifdjaaDoorW.PrintWords Go.Proofs.YtgmjaggkiifdjaaDoorW.PrintLast Go.Proofs.YtgmjaggkiifdjaaDoorW.PrintMore
def spec_Spliced.l0 : Nat → ByteArray → List ByteArray → Int → Int → Option (List ByteArray × Int)
  | 0, _, _, _, _ => none
  | k + 1, x0, x4, x5, x6 => if x6 ≤ (x0.size : Int) then (if x6 = (x0.size : Int) then (if 0 ≤ x5 then (if x5 ≤ x6 then ((spec_ahead.f k (x0.extract (x5 : Int).toNat (x6 : Int).toNat)).bind fun t128 => (if x4.length < 8796093022208 then (spec_Spliced.l0 k x0 (x4 ++ [t128]) (wrap64 (x6 + 1)) (wrap64 (x6 + 1))) else (none))) else (none)) else (none)) else (if 0 ≤ x6 then (if x6 < (x0.size : Int) then (if (bt x0 x6) = 44 then (if 0 ≤ x5 then (if x5 ≤ x6 then ((spec_ahead.f k (x0.extract (x5 : Int).toNat (x6 : Int).toNat)).bind fun t132 => (if x4.length < 8796093022208 then (spec_Spliced.l0 k x0 (x4 ++ [t132]) (wrap64 (x6 + 1)) (wrap64 (x6 + 1))) else (none))) else (none)) else (none)) else (spec_Spliced.l0 k x0 x4 x5 (wrap64 (x6 + 1)))) else (none)) else (none))) else (some (x4, 1))
def spec_Spliced.f (k : Nat) (a0 : ByteArray) : Option (List ByteArray × Int) := if a0.toList = ([] : List UInt8) then (some (([] : List ByteArray), 1)) else (if (a0.size : Int) > 250 then (some (([] : List ByteArray), 2)) else (spec_Spliced.l0 k a0 ([] : List ByteArray) 0 0))
set_option maxHeartbeats 8000000 in
set_option maxRecDepth 100000 in
theorem spec_Spliced.calls (k : Nat) (a0 : ByteArray) (r1 : List ByteArray) (r2 : Int) (w : World) (h : spec_Spliced.f k a0 = some (r1, r2)) :
    Calls Tryd.prog 26 #[.string a0] w fun e w' => ∃ v0_ : Value, e = .returned (.tuple #[v0_, .int .i64 r2]) ∧ Kd.R Kd.string 9 w' w.heap.size (fun _ => True) v0_ r1 ∧ Below w.heap.size w w' := by
  have HB := Aside0.mk (Below.refl w.heap.size w)
  have H : (if a0.toList = ([] : List UInt8) then (some (([] : List ByteArray), 1)) else (if (a0.size : Int) > 250 then (some (([] : List ByteArray), 2)) else (spec_Spliced.l0 k a0 ([] : List ByteArray) 0 0))) = some (r1, r2) := h
  clear h
  by_cases c2 : a0.toList = ([] : List UInt8)
  · rw [if_pos c2] at H
    have c2b0 : (a0.toList == ([] : List UInt8)) = true := beq_iff_eq.mpr c2
    have c2b1 : (a0.toList != ([] : List UInt8)) = false := bne_eq_false_iff_eq.mpr c2
    clear c2
    simp only [Option.some.injEq, Prod.mk.injEq] at H
    obtain ⟨rfl, rfl⟩ := H
    go_enter Tryd.func26, Tryd.ntmps26
    go_wp2
    go_ret2
    exact ⟨_, by first | rfl | (simp [errW_none, errW_some] <;> rfl) | (simp [*, errW_none, errW_some] <;> rfl), by first | exact Kd.R_nil _ _ _ _ _ | exact Kd.N_nil _ _ _ _ _ | exact Kd.V_nil _ _ _ _ _ | exact Kd.Q_nil _ _ _ _ _ | exact Kd.S_nil _ _ _ _ _, by repeat (first | (with_reducible first | exact HB.out | apply below_alloc | apply pw_below_drewN | apply below_drew1) | exact HB.out)⟩
  · rw [if_neg c2] at H
    have c2b0 : (a0.toList == ([] : List UInt8)) = false := beq_eq_false_iff_ne.mpr c2
    have c2b1 : (a0.toList != ([] : List UInt8)) = true := bne_iff_ne.mpr c2
    by_cases c3 : (a0.size : Int) > 250
    · rw [if_pos c3] at H
      have c3b0 : decide (250 < (a0.size : Int)) = true := decide_eq_true c3
      have c3b1 : decide (250 < a0.size) = true := decide_eq_true (by omega)
      clear c3
      simp only [Option.some.injEq, Prod.mk.injEq] at H
      obtain ⟨rfl, rfl⟩ := H
      go_enter Tryd.func26, Tryd.ntmps26
      go_wp2
      go_ret2
      exact ⟨_, by first | rfl | (simp [errW_none, errW_some] <;> rfl) | (simp [*, errW_none, errW_some] <;> rfl), by first | exact Kd.R_nil _ _ _ _ _ | exact Kd.N_nil _ _ _ _ _ | exact Kd.V_nil _ _ _ _ _ | exact Kd.Q_nil _ _ _ _ _ | exact Kd.S_nil _ _ _ _ _, by repeat (first | (with_reducible first | exact HB.out | apply below_alloc | apply pw_below_drewN | apply below_drew1) | exact HB.out)⟩
    · rw [if_neg c3] at H
      have c3b0 : decide (250 < (a0.size : Int)) = false := decide_eq_false c3
      have c3b1 : decide (250 < a0.size) = false := decide_eq_false (by omega)
      clear c3
      have H' := Aside0.mk H
      clear H
      go_enter Tryd.func26, Tryd.ntmps26
      go_wp2
      go_loopg [4, 5, 6] k (fun kq v4 v5 v6 w' => ∃ (x4_1 : List ByteArray) (x5_1 : Int) (x6_1 : Int), v5 = .int .i64 x5_1 ∧ v6 = .int .i64 x6_1 ∧ Aside0 (spec_Spliced.l0 kq a0 x4_1 x5_1 x6_1 = some (r1, r2)) ∧ Aside0 (kq ≤ k) ∧ Aside0 (Kd.R Kd.string 9 w' w.heap.size (fun _ => True) v4 x4_1) ∧ Aside0 (Below w.heap.size w w'))
      case atStart => exact ⟨(([] : List ByteArray)), (0), (0), (by first | rfl | (simp; done) | (rw [prx_ne]; first | done | rfl) | (simp [*]; done)), (by first | rfl | (simp; done) | (rw [prx_ne]; first | done | rfl) | (simp [*]; done)), H', ⟨Nat.le_refl _⟩, ⟨by first | exact Kd.R_nil _ _ _ _ _ | exact Kd.N_nil _ _ _ _ _ | exact Kd.V_nil _ _ _ _ _ | exact Kd.Q_nil _ _ _ _ _ | exact Kd.S_nil _ _ _ _ _⟩, ⟨by repeat (first | (with_reducible first | exact HB.out | apply below_alloc | apply pw_below_drewN | apply below_drew1) | exact HB.out)⟩⟩
      case round =>
        clear H'
        try clear c2
        try clear c2b0
        try clear c2b1
        try clear p2
        try clear c3
        try clear c3b0
        try clear c3b1
        obtain ⟨x4_1, x5_1, x6_1, rfl, rfl, HA, HK1, HO_4, HB⟩ := hrel
        cases gk with
        | zero => exact absurd HA.out (by simp [spec_Spliced.l0])
        | succ k1 =>
          have H := HA.out
          clear HA
          simp only [spec_Spliced.l0] at H
          by_cases c4 : x6_1 ≤ (a0.size : Int)
          · rw [if_pos c4] at H
            have c4b0 : decide (x6_1 ≤ (a0.size : Int)) = true := decide_eq_true c4
            clear c4
            by_cases c5 : x6_1 = (a0.size : Int)
            · rw [if_pos c5] at H
              have c5b0 : (x6_1 == (a0.size : Int)) = true := beq_iff_eq.mpr c5
              have c5b1 : (x6_1 != (a0.size : Int)) = false := bne_eq_false_iff_eq.mpr c5
              clear c5
              by_cases c6 : 0 ≤ x5_1
              · rw [if_pos c6] at H
                have c6b0 := eq_true c6
                have c6b1 : decide (0 ≤ x5_1) = true := decide_eq_true c6
                clear c6
                by_cases c7 : x5_1 ≤ x6_1
                · rw [if_pos c7] at H
                  have c7b0 := eq_true c7
                  have c7b1 : decide (x5_1 ≤ x6_1) = true := decide_eq_true c7
                  clear c7
                  have c8b0 := eq_true (of_decide_eq_true (by first | (with_reducible assumption) | assumption) : x6_1 ≤ (a0.size : Int))
                  replace H := Option.bind_eq_some_iff.mp H
                  obtain ⟨t128, A90, H⟩ := H
                  replace H : (if x4_1.length < 8796093022208 then (spec_Spliced.l0 k1 a0 (x4_1 ++ [t128]) (wrap64 (x6_1 + 1)) (wrap64 (x6_1 + 1))) else (none)) = some (r1, r2) := H
                  have A9 := Aside0.mk A90
                  clear A90
                  by_cases c10 : x4_1.length < 8796093022208
                  · rw [if_pos c10] at H
                    have LMc10 := Aside0.mk c10
                    clear c10
                    obtain ⟨y129, hy129⟩ : ∃ y_ : List ByteArray, y_ = (x4_1 ++ [t128]) := ⟨_, rfl⟩
                    replace H : (spec_Spliced.l0 k1 a0 y129 (wrap64 (x6_1 + 1)) (wrap64 (x6_1 + 1))) = some (r1, r2) := by first | (rw [hy129]; with_reducible exact H) | (have H2_ := (Option.bind_some _ _).symm.trans H; rw [hy129]; with_reducible exact H2_) | (have H2_ := (Option.bind_some _ _).symm.trans H; with_reducible exact H2_) | with_reducible exact H | (rw [hy129]; exact H) | exact H
                    have Ny129 := Aside0.mk hy129
                    clear hy129
                    have H' := Aside0.mk H
                    clear H
                    go_wp2_with (first | ((with_reducible refine gate_callee (f := 59) rfl ?_); refine goesL_ (some 33) rfl rfl Tryd.func59 (by kernel_rfl) rfl #[.string (a0.extract (x5_1 : Int).toNat (x6_1 : Int).toNat)] rfl (by (try simp only [List.map_toArray, List.map_cons, List.map_nil]); first | done | rfl | (simp only [List.length_drop, List.length_take]; rfl)) ?_; (with_reducible refine (spec_ahead.calls k1 (a0.extract (x5_1 : Int).toNat (x6_1 : Int).toNat) t128 _ A9.out).mono ?_); rintro e w' ⟨rfl, ⟨nd, rfl⟩⟩; refine ⟨_, rfl, ?_⟩) | ((with_reducible refine gate_builtin (b := .append) (xs := #[.tmp 28, .tmp 34]) rfl ?_); at_builtin; refine Kd.R_append Kd.string (w0 := w) w.heap.size rfl (.tmp 28) (.tmp 34) 35 9 (.string ⟨#[]⟩) 16 rfl Tryd.underlying35 info9 rfl (by decide) (by omega) u4 x4_1 t128 [.string t128] (fun _ => True) (fun _ => False) rfl rfl ?aP (fun _ hk => hk.elim) ?aF ?aO ?aB ?aS ?aL ?_; (case aP => exact rfl); (case aB => exact (by repeat (first | (with_reducible first | exact HB.out | apply below_alloc | apply pw_below_drewN | apply below_drew1) | exact HB.out))); (case aF => exact (fun _ _ => trivial)); (case aO => exact (by (with_reducible repeat (first | apply Kd.R_alloc | apply Kd.R_drewN | apply Kd.R_drew)); exact HO_4.out)); (case aS => exact (below_size (by repeat (first | (with_reducible first | exact HB.out | apply below_alloc | apply pw_below_drewN | apply below_drew1) | exact HB.out)))); (case aL => have := LMc10.out; omega); intro v130 w11 ho hb hg hat; rw [← Ny129.out] at ho; have n0_ := Aside0.mk (hb); have n1_ := Aside0.mk (ho); clear HB; clear HO_4; have HB := n0_; have HO131 := n1_; clear n0_ n1_; clear ho hb hg hat))
                    go_roundg k1
                    case measure => have := HK1.out; omega
                    case rel => exact ⟨(y129), (wrap64 (x6_1 + 1)), (wrap64 (x6_1 + 1)), (by first | rfl | (simp; done) | (rw [prx_ne]; first | done | rfl) | (simp [*]; done)), (by first | rfl | (simp; done) | (rw [prx_ne]; first | done | rfl) | (simp [*]; done)), H', ⟨by have := HK1.out; omega⟩, ⟨by (with_reducible repeat (first | apply Kd.R_alloc | apply Kd.R_drewN | apply Kd.R_drew)); exact HO131.out⟩, ⟨by repeat (first | (with_reducible first | exact HB.out | apply below_alloc | apply pw_below_drewN | apply below_drew1) | exact HB.out)⟩⟩
                  · rw [if_neg c10] at H
                    exact absurd H (by simp)
                · rw [if_neg c7] at H
                  exact absurd H (by simp)
              · rw [if_neg c6] at H
                exact absurd H (by simp)
            · rw [if_neg c5] at H
              have c5b0 : (x6_1 == (a0.size : Int)) = false := beq_eq_false_iff_ne.mpr c5
              have c5b1 : (x6_1 != (a0.size : Int)) = true := bne_iff_ne.mpr c5
              by_cases c12 : 0 ≤ x6_1
              · rw [if_pos c12] at H
                have c12b0 : decide (0 ≤ x6_1) = true := decide_eq_true c12
                clear c12
                by_cases c13 : x6_1 < (a0.size : Int)
                · rw [if_pos c13] at H
                  have c13b0 : decide (x6_1 < (a0.size : Int)) = true := decide_eq_true c13
                  clear c13
                  by_cases c15 : (bt a0 x6_1) = 44
                  · rw [if_pos c15] at H
                    have c15b0 : ((bt a0 x6_1) == 44) = true := beq_iff_eq.mpr c15
                    have c15b1 : ((bt a0 x6_1) != 44) = false := bne_eq_false_iff_eq.mpr c15
                    clear c15
                    by_cases c16 : 0 ≤ x5_1
                    · rw [if_pos c16] at H
                      have c16b0 := eq_true c16
                      have c16b1 : decide (0 ≤ x5_1) = true := decide_eq_true c16
                      clear c16
                      by_cases c17 : x5_1 ≤ x6_1
                      · rw [if_pos c17] at H
                        have c17b0 := eq_true c17
                        have c17b1 : decide (x5_1 ≤ x6_1) = true := decide_eq_true c17
                        clear c17
                        have c18b0 := eq_true (of_decide_eq_true (by first | (with_reducible assumption) | assumption) : x6_1 ≤ (a0.size : Int))
                        replace H := Option.bind_eq_some_iff.mp H
                        obtain ⟨t132, A190, H⟩ := H
                        replace H : (if x4_1.length < 8796093022208 then (spec_Spliced.l0 k1 a0 (x4_1 ++ [t132]) (wrap64 (x6_1 + 1)) (wrap64 (x6_1 + 1))) else (none)) = some (r1, r2) := H
                        have A19 := Aside0.mk A190
                        clear A190
                        by_cases c20 : x4_1.length < 8796093022208
                        · rw [if_pos c20] at H
                          have LMc20 := Aside0.mk c20
                          clear c20
                          obtain ⟨y133, hy133⟩ : ∃ y_ : List ByteArray, y_ = (x4_1 ++ [t132]) := ⟨_, rfl⟩
                          replace H : (spec_Spliced.l0 k1 a0 y133 (wrap64 (x6_1 + 1)) (wrap64 (x6_1 + 1))) = some (r1, r2) := by first | (rw [hy133]; with_reducible exact H) | (have H2_ := (Option.bind_some _ _).symm.trans H; rw [hy133]; with_reducible exact H2_) | (have H2_ := (Option.bind_some _ _).symm.trans H; with_reducible exact H2_) | with_reducible exact H | (rw [hy133]; exact H) | exact H
                          have Ny133 := Aside0.mk hy133
                          clear hy133
                          have H' := Aside0.mk H
                          clear H
                          have p14 : 0 ≤ (x6_1 : Int) := of_decide_eq_true (by first | (with_reducible assumption) | assumption)
                          have q14 : x6_1 < (a0.size : Int) := of_decide_eq_true (by first | (with_reducible assumption) | assumption)
                          have hx14 := bt_at a0 x6_1
                          replace p14 := eq_true p14
                          replace q14 := eq_true q14
                          go_wp2_with (first | ((with_reducible refine gate_callee (f := 59) rfl ?_); refine goesL_ (some 33) rfl rfl Tryd.func59 (by kernel_rfl) rfl #[.string (a0.extract (x5_1 : Int).toNat (x6_1 : Int).toNat)] rfl (by (try simp only [List.map_toArray, List.map_cons, List.map_nil]); first | done | rfl | (simp only [List.length_drop, List.length_take]; rfl)) ?_; (with_reducible refine (spec_ahead.calls k1 (a0.extract (x5_1 : Int).toNat (x6_1 : Int).toNat) t132 _ A19.out).mono ?_); rintro e w' ⟨rfl, ⟨nd, rfl⟩⟩; refine ⟨_, rfl, ?_⟩) | ((with_reducible refine gate_builtin (b := .append) (xs := #[.tmp 28, .tmp 34]) rfl ?_); at_builtin; refine Kd.R_append Kd.string (w0 := w) w.heap.size rfl (.tmp 28) (.tmp 34) 35 9 (.string ⟨#[]⟩) 16 rfl Tryd.underlying35 info9 rfl (by decide) (by omega) u4 x4_1 t132 [.string t132] (fun _ => True) (fun _ => False) rfl rfl ?aP (fun _ hk => hk.elim) ?aF ?aO ?aB ?aS ?aL ?_; (case aP => exact rfl); (case aB => exact (by repeat (first | (with_reducible first | exact HB.out | apply below_alloc | apply pw_below_drewN | apply below_drew1) | exact HB.out))); (case aF => exact (fun _ _ => trivial)); (case aO => exact (by (with_reducible repeat (first | apply Kd.R_alloc | apply Kd.R_drewN | apply Kd.R_drew)); exact HO_4.out)); (case aS => exact (below_size (by repeat (first | (with_reducible first | exact HB.out | apply below_alloc | apply pw_below_drewN | apply below_drew1) | exact HB.out)))); (case aL => have := LMc20.out; omega); intro v134 w21 ho hb hg hat; rw [← Ny133.out] at ho; have n0_ := Aside0.mk (hb); have n1_ := Aside0.mk (ho); clear HB; clear HO_4; have HB := n0_; have HO135 := n1_; clear n0_ n1_; clear ho hb hg hat))
                          go_roundg k1
                          case measure => have := HK1.out; omega
                          case rel => exact ⟨(y133), (wrap64 (x6_1 + 1)), (wrap64 (x6_1 + 1)), (by first | rfl | (simp; done) | (rw [prx_ne]; first | done | rfl) | (simp [*]; done)), (by first | rfl | (simp; done) | (rw [prx_ne]; first | done | rfl) | (simp [*]; done)), H', ⟨by have := HK1.out; omega⟩, ⟨by (with_reducible repeat (first | apply Kd.R_alloc | apply Kd.R_drewN | apply Kd.R_drew)); exact HO135.out⟩, ⟨by repeat (first | (with_reducible first | exact HB.out | apply below_alloc | apply pw_below_drewN | apply below_drew1) | exact HB.out)⟩⟩
                        · rw [if_neg c20] at H
                          exact absurd H (by simp)
                      · rw [if_neg c17] at H
                        exact absurd H (by simp)
                    · rw [if_neg c16] at H
                      exact absurd H (by simp)
                  · rw [if_neg c15] at H
                    have c15b0 : ((bt a0 x6_1) == 44) = false := beq_eq_false_iff_ne.mpr c15
                    have c15b1 : ((bt a0 x6_1) != 44) = true := bne_iff_ne.mpr c15
                    have H' := Aside0.mk H
                    clear H
                    have p14 : 0 ≤ (x6_1 : Int) := of_decide_eq_true (by first | (with_reducible assumption) | assumption)
                    have q14 : x6_1 < (a0.size : Int) := of_decide_eq_true (by first | (with_reducible assumption) | assumption)
                    have hx14 := bt_at a0 x6_1
                    replace p14 := eq_true p14
                    replace q14 := eq_true q14
                    go_wp2
                    go_roundg k1
                    case measure => have := HK1.out; omega
                    case rel => exact ⟨(x4_1), (x5_1), (wrap64 (x6_1 + 1)), (by first | rfl | (simp; done) | (rw [prx_ne]; first | done | rfl) | (simp [*]; done)), (by first | rfl | (simp; done) | (rw [prx_ne]; first | done | rfl) | (simp [*]; done)), H', ⟨by have := HK1.out; omega⟩, ⟨by (with_reducible repeat (first | apply Kd.R_alloc | apply Kd.R_drewN | apply Kd.R_drew)); exact HO_4.out⟩, ⟨by repeat (first | (with_reducible first | exact HB.out | apply below_alloc | apply pw_below_drewN | apply below_drew1) | exact HB.out)⟩⟩
                · rw [if_neg c13] at H
                  exact absurd H (by simp)
              · rw [if_neg c12] at H
                exact absurd H (by simp)
          · rw [if_neg c4] at H
            have c4b0 : decide (x6_1 ≤ (a0.size : Int)) = false := decide_eq_false c4
            clear c4
            simp only [Option.some.injEq, Prod.mk.injEq] at H
            obtain ⟨rfl, rfl⟩ := H
            go_wp2
            go_ret2
            exact ⟨_, by first | rfl | (simp [errW_none, errW_some] <;> rfl) | (simp [*, errW_none, errW_some] <;> rfl), by (with_reducible repeat (first | apply Kd.R_alloc | apply Kd.R_drewN | apply Kd.R_drew)); exact HO_4.out, by repeat (first | (with_reducible first | exact HB.out | apply below_alloc | apply pw_below_drewN | apply below_drew1) | exact HB.out)⟩
end Go.Proofs.YtgmjaggkiifdjaaDoor.QA
namespace Go.Proofs.YtgmjaggkiifdjaaDoor.Base
open Go.RowKit Go.Proofs.YtgmjaggkiifdjaaDoor.QA Go.Proofs.YtgmjaggkiifdjaaDoorW.PrintWords Go.Proofs.YtgmjaggkiifdjaaDoorW.PrintLast
def lastTo (xs : List Int) (c : Int) : Nat → Int
  | 0 => -1
  | j + 1 => if xs.getD j 0 = c then (j : Int) else lastTo xs c j
theorem lastTo_range (xs : List Int) (c : Int) (j : Nat) : -1 ≤ lastTo xs c j ∧ lastTo xs c j < j := by
  induction j with
  | zero => simp [lastTo]
  | succ j ih =>
    unfold lastTo
    split <;> omega
theorem lastByte_ends (s : ByteArray) (c : Int) (hs : s.size ≤ 4611686018427387904) : Ev (fun k => bytealg_LastIndexByteString.f k s c) (lastTo (ns s) c s.size) := by
  have key : ∀ j : Nat, j ≤ s.size → Ev (fun k => bytealg_LastIndexByteString.l0 k s c ((j : Int) - 1)) (lastTo (ns s) c j) := by
    intro j
    induction j with
    | zero =>
      intro _
      refine Ev.step (f := fun _ => some (-1)) (fun k => ?_) (Ev.now _)
      simp only [bytealg_LastIndexByteString.l0]
      rw [if_neg (by omega)]
    | succ j ih =>
      intro hj
      have e : (((j + 1 : Nat) : Int) - 1) = (j : Int) := by omega
      rw [e]
      by_cases hc : (ns s).getD j 0 = c
      · refine Ev.step (f := fun _ => some (j : Int)) (fun k => ?_) (Ev.val ?_)
        · simp only [bytealg_LastIndexByteString.l0]
          rw [if_pos (by omega), if_pos (by omega), if_pos (by omega), if_pos (by rw [bt_ns]; exact hc)]
        · unfold lastTo; rw [if_pos hc]
      · have h2 := ih (by omega)
        unfold lastTo
        rw [if_neg hc]
        refine Ev.step (f := fun k => bytealg_LastIndexByteString.l0 k s c ((j : Int) - 1)) (fun k => ?_) h2
        simp only [bytealg_LastIndexByteString.l0]
        rw [if_pos (by omega), if_pos (by omega), if_pos (by omega), if_neg (by rw [bt_ns]; exact hc)]
        congr 1
        unfold wrap64
        omega
  have h := key s.size (Nat.le_refl _)
  have hw : wrap64 ((s.size : Int) - 1) = (s.size : Int) - 1 := by unfold wrap64; omega
  simp only [bytealg_LastIndexByteString.f, hw]
  exact h
theorem lastColon_ends (s : ByteArray) (hs : s.size ≤ 4611686018427387904) : Ev (fun k => strings_LastIndex.f k s (⟨#[58]⟩ : ByteArray)) (lastTo (ns s) 58 s.size) := by
  simp only [strings_LastIndex.f]
  refine Ev.if_false (by decide) (Ev.if_true (by decide) (Ev.if_true (by decide) ?_))
  have e : bt (⟨#[58]⟩ : ByteArray) 0 = 58 := by decide
  rw [e]
  exact Ev.bind (lastByte_ends s 58 hs) (Ev.now _)
def addrOf (s : ByteArray) : ByteArray × ByteArray :=
  if lastTo (ns s) 58 s.size = -1 then (s, ⟨#[]⟩) else (s.extract 0 (lastTo (ns s) 58 s.size).toNat, s.extract ((lastTo (ns s) 58 s.size).toNat + 1) s.size)
theorem addr_ends (s : ByteArray) (hs : s.size ≤ 4611686018427387904) : Ev (fun k => impl_Addr.f k s) (addrOf s) := by
  simp only [impl_Addr.f]
  refine Ev.bind (a := addrOf s) ?_ (Ev.now _)
  simp only [fiberhelpers_ZzAddr.f]
  refine Ev.bind (a := addrOf s) ?_ (Ev.now _)
  simp only [fiberhelpers_parseAddr.f]
  refine Ev.bind (lastColon_ends s hs) ?_
  have hr := lastTo_range (ns s) 58 s.size
  unfold addrOf
  by_cases h : lastTo (ns s) 58 s.size = -1
  · refine Ev.if_true h ?_
    rw [if_pos h]; exact Ev.now _
  · obtain ⟨j, hj⟩ := Int.eq_ofNat_of_zero_le (show 0 ≤ lastTo (ns s) 58 s.size by omega)
    rw [hj] at hr h ⊢
    have hw : wrap64 ((j : Int) + 1) = (j : Int) + 1 := wrap_add (by omega) (by omega)
    rw [hw]
    refine Ev.if_false h (Ev.if_true (by omega) (Ev.if_true (by omega) (Ev.if_true (by omega) (Ev.if_true (by omega) ?_))))
    rw [if_neg h, Int.toNat_natCast, show ((j : Int) + 1).toNat = j + 1 by omega]
    exact Ev.now _
end Go.Proofs.YtgmjaggkiifdjaaDoor.Base
