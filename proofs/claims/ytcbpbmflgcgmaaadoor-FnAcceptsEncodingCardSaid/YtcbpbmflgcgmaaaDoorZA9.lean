/- Texts of this claim, one behind the other (merged by wip/prune.py of this repo, without what the proof does not use): HRqA, GAcc, QA12, PureFnAcceptsEncoding. -/
import Derived.Test.YtcbpbmflgcgmaaaDoorZA6
import Derived.Test.YtcbpbmflgcgmaaaDoorZA7
import Derived.Test.YtcbpbmflgcgmaaaDoorZA8
import Derived.StillTailTactics
set_option linter.unusedVariables false
set_option linter.unusedSimpArgs false
namespace Go.Proofs.YtcbpbmflgcgmaaaDoor.Own
open Go.RowKit Go.Proofs.YtcbpbmflgcgmaaaDoorW.PrintWords Go.Proofs.YtcbpbmflgcgmaaaDoorW.PrintLast Go.Proofs.YtcbpbmflgcgmaaaDoorW.PrintMore Go.Proofs.YtcbpbmflgcgmaaaDoor.Base Go.Proofs.YtcbpbmflgcgmaaaDoor.Gv
def plainK (kx : List Int) : Prop := ∀ x, kx.head? = some x → Go.bits .or .u8 x 32 ≠ 99 ∧ Go.bits .or .u8 x 32 ≠ 116 ∧ Go.bits .or .u8 x 32 ≠ 104 ∧ Go.bits .or .u8 x 32 ≠ 117
set_option maxHeartbeats 4000000 in
set_option maxRecDepth 100000 in
theorem rqSpecial_plain (w : World) (P V : Value) (A : Option Addr) (c : Nat) (kx : List Int) (hk : ReadsInt w .u8 A kx.length kx) (hp : plainK kx) :
    Calls Tryd.prog 74 #[P, .slice A kx.length c, V] w fun e w' => e = .returned (.bool false) ∧ w' = w := by
  cases kx with
  | nil =>
    clear hk hp
    go_enter Tryd.func74, Tryd.ntmps74
    go_wp2
    go_ret
    exact ⟨rfl, rfl⟩
  | cons x t =>
    obtain ⟨h1, h2, h3, h4⟩ := hp x rfl
    obtain ⟨a, rfl, hc⟩ := hk.2.2 (by simp)
    have c0 : w.cell? a = some (.int .u8 x) := by simpa [Addr.add] using hc 0 (by simp)
    obtain ⟨n, hn⟩ : ∃ n, (x :: t).length = n + 1 := ⟨t.length, rfl⟩
    rw [hn]
    obtain ⟨y, hy⟩ : ∃ y, Go.bits .or .u8 x 32 = y := ⟨_, rfl⟩
    rw [hy] at h1 h2 h3 h4
    have q0 : (((n + 1 : Nat) : Int) == 0) = false := beq_eq_false_iff_ne.2 (by omega)
    have q1 : (0 : Int) < ((n + 1 : Nat) : Int) := by omega
    have b1 : (y == 99) = false := beq_eq_false_iff_ne.2 h1
    have b2 : (y == 116) = false := beq_eq_false_iff_ne.2 h2
    have b3 : (y == 104) = false := beq_eq_false_iff_ne.2 h3
    have b4 : (y == 117) = false := beq_eq_false_iff_ne.2 h4
    clear hk hp hc hn
    go_enter Tryd.func74, Tryd.ntmps74
    go_wp2
    go_ret
    exact ⟨rfl, rfl⟩
theorem kv_len {S : List Slot} {n : Nat} {l : Nat → Nat} {w : World} {z : Nat} {V : Value} (h : KvS l w z V n S) : (kvs S n).length = n := kvs_length h.le
set_option maxHeartbeats 4000000 in
set_option maxRecDepth 100000 in
theorem rqCanon_plain {l : Nat → Nat} {w : World} {q p : Nat} {G : RqG} {R : RqV} (h : RqC l w q p G R) (hn : R.h.length ≤ 1099511627775) (A : Option Addr) (c : Nat) (kx : List Int) (hks : kx.length ≤ 140737488355328) (hkc : kx.length ≤ c) (hp : plainK kx) (hk : Src (Zn (q + 10)) l w A kx.length kx)
    (B : Option Addr) (m' c' : Nat) (vx : List Int) (hvs : m' ≤ 140737488355328) (hv : Src (Zn (q + 10)) l w B m' vx) :
    Calls Tryd.prog 60 #[.pointer (some ⟨p, 0, none⟩), .slice A kx.length c, .slice B m' c'] w fun e w' => ∃ l1 G1, e = .returned (.tuple #[]) ∧ RqC l1 w' q p G1 { R with h := setKV kx vx R.h } ∧ Stp (RqZ q) l l1 w w' := by
  have hn0 : G.nh ≤ 1099511627775 := by rw [h.hx, kv_len h.h] at hn; exact hn
  have HS := Lib.hid (rqSpecial_plain w (.pointer (some ⟨p, 0, none⟩)) (.slice B m' c') A c kx hk.now hp)
  have HA := Lib.hid (setArgBytes_calls l w (q + 10) G.nh G.h G.Sh h.h hn0 A c kx hks hkc hk B m' c' vx hvs hv)
  have c13 := h.c_h
  have HH := Lib.hid h
  obtain ⟨K, hK⟩ : ∃ K, kx.length = K := ⟨_, rfl⟩
  rw [hK] at HS HA
  rw [hK]
  clear h hk hv hn hn0 hks hkc hvs hp hK
  go_enter Tryd.func60, Tryd.ntmps60
  go_wp2_with (first
    | (go_at_call 74
       refine HS.out.mono ?_
       rintro e w1 ⟨rfl, rfl⟩)
    | (go_at_call 75
       refine HA.out.mono ?_
       rintro e w2 ⟨l1, V1, n1, S1, rfl, k1, k2, k3, k4⟩
       obtain ⟨A9, c9, rfl⟩ := k1.shape
       obtain ⟨⟨d0, d1⟩, d2, d3⟩ := HH.out.set_h k4 k1
       have K1 := Lib.hid d2
       have K2 := Lib.hid d3
       have K3 := Lib.hid k3
       clear k1 k2 k3 k4 d2 d3))
  go_end0
  have e := K1.out
  rw [K3.out, ← HH.out.hx] at e
  exact ⟨_, _, rfl, e, K2.out⟩
set_option maxHeartbeats 4000000 in
set_option maxRecDepth 100000 in
theorem rqSet_plain {l : Nat → Nat} {w : World} {q p : Nat} {G : RqG} {R : RqV} (h : RqC l w q p G R) (hn : R.h.length ≤ 1099511627775) (key value : ByteArray) (hks : key.size ≤ 140737488351232) (hvs : value.size ≤ 140737488351232) (hp : plainK (nkd R.dn (ns key))) :
    Calls Tryd.prog 22 #[.pointer (some ⟨p, 0, none⟩), .string key, .string value] w fun e w' => ∃ l1 G1, e = .returned (.tuple #[]) ∧ RqC l1 w' q p G1 { R with h := setKV (nkd R.dn (ns key)) (ns value) R.h } ∧ Stp (RqZ q) l l1 w w' := by
  obtain ⟨wd, hwd⟩ : ∃ x, w.drew = x := ⟨_, rfl⟩
  have hsd : Stp (RqZ q) l l w wd := by rw [← hwd]; exact drew_stp (RqZ q) l w 1
  have hd0 : RqC l wd q p G R := by rw [← hwd]; exact h.keep (drew_stp (fun _ => False) l w 1) (fun _ k => k.elim)
  have hq := h.hq
  have hq' := h.hq'
  have HWD := Lib.hid hwd
  have HI := Lib.hid (initKV_calls l wd q (q + 8) (q + 9) p 14 54 (G.cells R) G.bk G.bv G.bkx G.bvx key value R.dn hd0.blk rfl rfl hd0.bk hd0.bv (by omega) (by omega) (by omega) (by omega) (by omega))
  have x0 := hd0.c_dn.1
  have y0 := h.c_dn.1
  have HT := Lib.hid hd0
  have HD := Lib.hid hsd
  have HP := Lib.hid hp
  clear h hd0 hsd hwd hp
  go_enter Tryd.func22, Tryd.ntmps22
  go_wp2
  go_still_tail 9, (by kernel_rfl)
  change wpList _ _ _ _ _ w.drew
  rw [HWD.out]
  go_upto_region 1 with (go_at_call 59; refine HI.out.mono ?_; rintro e w1 ⟨l1, kv1, vv1, rfl, i1, i2, i3, i4⟩; have I1 := Lib.hid i1; have I2 := Lib.hid i2; have I3 := Lib.hid i3; have I4' := Lib.hid i4; clear i1 i2 i3 i4)
  obtain ⟨k0, s0⟩ := HT.out.set_buf I4'.out I1.out I2.out I3.out
  have i2 := I2.out
  have i3 := I3.out
  obtain ⟨A1, d1, rfl, hd1⟩ := i2.slice
  obtain ⟨A2, d2, rfl, hd2⟩ := i3.slice
  obtain ⟨wd1, hwd1⟩ : ∃ x, w1.drew = x := ⟨_, rfl⟩
  have k1 := k0.keep (drew_stp (fun _ => False) l1 w1 1) (fun _ k => k.elim)
  have hsd1 : Stp (RqZ q) l1 l1 w1 wd1 := by rw [← hwd1]; exact drew_stp (RqZ q) l1 w1 1
  change RqC l1 w1.drew q p _ R at k1
  rw [hwd1] at k1
  have y1 := k0.c_bk.1
  have y2 := k0.c_bv.1
  have s1 := (Src.of_bf (F := Zn (q + 10)) k1.bk (by unfold Zn; omega)).2
  have s2 := (Src.of_bf (F := Zn (q + 10)) k1.bv (by unfold Zn; omega)).2
  have HC := rqCanon_plain k1 hn A1 d1 (nkd R.dn (ns key)) (by rw [nkd_length, ns_length]; omega) hd1 HP.out s1 A2 (ns value).length d2 (ns value) (by rw [ns_length]; omega) s2
  have I4 := Lib.hid (s0.trans hsd1)
  have HWD1 := Lib.hid hwd1
  have HCC := Lib.hid HC
  obtain ⟨N1, hN1⟩ : ∃ N, (nkd R.dn (ns key)).length = N := ⟨_, rfl⟩
  obtain ⟨N2, hN2⟩ : ∃ N, (ns value).length = N := ⟨_, rfl⟩
  simp only [hN1, hN2] at y1 y2
  rw [hN1, hN2] at HCC
  clear i2 i3 s0 s1 s2 HC k0 k1 hsd1 hwd1 hN1 hN2 hd1 hd2
  go_still_tail 11, (by kernel_rfl)
  change wpList _ _ _ _ _ w1.drew
  rw [HWD1.out]
  go_wp2_with (go_at_call 60; refine HCC.out.mono ?_; rintro e w2 ⟨l2, G2, rfl, j1, j2⟩; have J1 := Lib.hid j1; have J2 := Lib.hid j2; clear j1 j2)
  go_end0
  exact ⟨_, _, rfl, J1.out, (HD.out.trans I4.out).trans J2.out⟩
end Go.Proofs.YtcbpbmflgcgmaaaDoor.Own
namespace Go.Proofs.YtcbpbmflgcgmaaaDoor.Own
open Go.RowKit Go.Proofs.YtcbpbmflgcgmaaaDoorW.PrintWords Go.Proofs.YtcbpbmflgcgmaaaDoorW.PrintLast Go.Proofs.YtcbpbmflgcgmaaaDoorW.PrintMore Go.Proofs.YtcbpbmflgcgmaaaDoor.Base Go.Proofs.YtcbpbmflgcgmaaaDoor.Gv
def listK (key : ByteArray) : Prop := (key.toList == [72, 111, 115, 116]) = false ∧ (key.toList == [67, 111, 110, 116, 101, 110, 116, 45, 84, 121, 112, 101]) = false ∧ (key.toList == [85, 115, 101, 114, 45, 65, 103, 101, 110, 116]) = false ∧ (key.toList == [67, 111, 110, 110, 101, 99, 116, 105, 111, 110]) = false ∧ (key.toList == [67, 111, 110, 116, 101, 110, 116, 45, 76, 101, 110, 103, 116, 104]) = false ∧ (key.toList == [67, 111, 111, 107, 105, 101]) = false ∧ (key.toList == [84, 114, 97, 105, 108, 101, 114]) = false
set_option maxHeartbeats 4000000 in
set_option maxRecDepth 100000 in
theorem rqPeek_plain {l : Nat → Nat} {w : World} {q p : Nat} {G : RqG} {R : RqV} (h : RqC l w q p G R) (hn : R.h.length ≤ 1099511627776) (key : ByteArray) (hk : listK key) :
    Calls Tryd.prog 61 #[.pointer (some ⟨p, 0, none⟩), .string key] w fun e w' => ∃ v, e = .returned v ∧ PeekSays w (getKV (ns key) R.h) v ∧ w' = w := by
  have hn0 : G.nh ≤ 1099511627776 := by rw [h.hx, kv_len h.h] at hn; exact hn
  have HP := Lib.hid (peekArgStr_calls l w (q + 10) G.nh G.h G.Sh h.h hn0 key)
  have x0 := h.c_h.1
  have HX := Lib.hid h.hx
  obtain ⟨b1, b2, b3, b4, b5, b6, b7⟩ := hk
  clear h hn hn0
  go_enter Tryd.func61, Tryd.ntmps61
  go_wp2_with (go_at_call 81; refine HP.out.mono ?_; rintro e w1 ⟨v, rfl, hp, rfl⟩; have HV := Lib.hid hp; clear hp)
  go_ret
  exact ⟨_, rfl, by rw [HX.out]; exact HV.out, rfl⟩
theorem PeekSays.row {w : World} {r : Option (List Int)} {v : Value} (h : PeekSays w r v) : ∃ A c, v = .slice A (r.getD []).length c ∧ (r.getD []).length ≤ c ∧ ReadsInt w .u8 A (r.getD []).length (r.getD []) := by
  rcases h with ⟨rfl, rfl⟩ | ⟨A, c, vx, rfl, rfl, h3, h4, _⟩
  · exact ⟨none, 0, rfl, Nat.le_refl _, rfl, by simp, fun h => by simp at h⟩
  · exact ⟨A, c, rfl, h3, h4⟩
def aeK : ByteArray := ⟨#[65, 99, 99, 101, 112, 116, 45, 69, 110, 99, 111, 100, 105, 110, 103]⟩
theorem aeK_list : listK aeK := ⟨by kernel_rfl, by kernel_rfl, by kernel_rfl, by kernel_rfl, by kernel_rfl, by kernel_rfl, by kernel_rfl⟩
set_option maxHeartbeats 4000000 in
set_option maxRecDepth 100000 in
theorem rqHas_calls {l : Nat → Nat} {w : World} {q p : Nat} {G : RqG} {R : RqV} (h : RqC l w q p G R) (hn : R.h.length ≤ 1099511627776) (A : Option Addr) (c : Nat) (e : List Int) (hr : ReadsInt w .u8 A e.length e) (hc : e.length ≤ c) (he : Rg e) (hes : e.length ≤ 140737488355328)
    (hx : Rg ((getKV (ns aeK) R.h).getD [])) (hxs : ((getKV (ns aeK) R.h).getD []).length ≤ 140737488355328) :
    Calls Tryd.prog 23 #[.pointer (some ⟨p, 0, none⟩), .slice A e.length c] w fun en w' => en = .returned (.bool (accL ((getKV (ns aeK) R.h).getD []) e)) ∧ ∃ m, w' = w.drewN m := by
  have HP := Lib.hid (rqPeek_plain h hn aeK aeK_list)
  generalize getKV (ns aeK) R.h = r at *
  obtain ⟨xs, hxe⟩ : ∃ xs, r.getD [] = xs := ⟨_, rfl⟩
  rw [hxe] at hx hxs ⊢
  obtain ⟨M, hM⟩ : ∃ M, e.length = M := ⟨_, rfl⟩
  have HR := Lib.hid hr
  have HC := Lib.hid hc
  have HE := Lib.hid he
  have HX := Lib.hid hx
  have HM := Lib.hid hM
  have HXE := Lib.hid hxe
  rw [hM] at hes ⊢
  clear h hn hr hc he hx hM hxe
  go_enter Tryd.func23, Tryd.ntmps23
  have HP' : Hid (Calls Tryd.prog 61 #[.pointer (some ⟨p, 0, none⟩), .string ⟨#[65, 99, 99, 101, 112, 116, 45, 69, 110, 99, 111, 100, 105, 110, 103]⟩] w fun e w' => ∃ v, e = .returned v ∧ PeekSays w r v ∧ w' = w) := HP
  clear HP
  go_upto_region 2 with (go_at_call 61; refine HP'.out.mono ?_; rintro en w1 ⟨v, rfl, hp, rfl⟩; have HV := Lib.hid hp; clear hp)
  obtain ⟨A0, c0, rfl, hc0, hr0⟩ := HV.out.row
  rw [HXE.out] at hc0 hr0
  rw [HXE.out]
  have HZ := Lib.hid (zzB_calls w1 A0 c0 xs hr0 hc0 A c e HR.out HC.out HX.out HE.out hxs (by rw [HM.out]; exact hes))
  rw [HM.out] at HZ
  obtain ⟨N, hN⟩ : ∃ N, xs.length = N := ⟨_, rfl⟩
  have HN := Lib.hid hN
  have HR0 := Lib.hid hr0
  cases hidx : idxL e xs with
  | none =>
    rw [hidx] at HZ
    have HZ' : Hid (Calls Tryd.prog 62 #[.slice A0 xs.length c0, .slice A M c] w1 fun en w' => en = .returned (.int .i64 (-1)) ∧ ∃ m, w' = w1.drewN m) := HZ
    have HA := Lib.hid (show accL xs e = false by unfold accL; rw [hidx])
    clear hr0 hidx HZ
    rw [HN.out] at HZ' ⊢
    go_wp2_with (go_at_call 62; refine HZ'.out.mono ?_; rintro en w2 ⟨rfl, m, rfl⟩)
    go_ret
    exact ⟨by rw [HA.out]; rfl, m, rfl⟩
  | some n =>
    have hle := idxL_le e xs n hidx
    rw [hidx] at HZ
    have HZ' : Hid (Calls Tryd.prog 62 #[.slice A0 xs.length c0, .slice A M c] w1 fun en w' => en = .returned (.int .i64 (n : Int)) ∧ ∃ m, w' = w1.drewN m) := by
      have := HZ.out
      simp only [zzI, Nat.zero_add] at this
      exact Lib.hid this
    have HA := Lib.hid (show accL xs e = ((xs.drop (n + M) == [] || (xs.drop (n + M)).head? == some 44) && (n == 0 || xs[n - 1]? == some 32)) by unfold accL; rw [hidx, HM.out])
    rw [HM.out, hN] at hle
    obtain ⟨A8, hcut, hrd, hlc⟩ := print_drop_of (P := Tryd.prog) (Value.int .u8) 0 47 5 .i64 Tryd.underlying47 (info_parts info8).choose_spec.1 (info_parts info8).choose_spec.2.2.1 A0 c0 xs ((n : Int) + (M : Int)) (by omega) (by rw [hN]; omega) hc0
    have hdr : ((n : Int) + (M : Int)).toNat = n + M := by omega
    have hwr : IntKind.i64.wrap ((n : Int) + (M : Int)) = (n : Int) + (M : Int) := by rw [IntKind.wrap_i64]; omega
    have hN2 : N ≤ 140737488355328 := by omega
    have hdl : (xs.drop (n + M)).length = N - (n + M) := by rw [List.length_drop, hN]
    have zn : ¬ ((n : Int) < 0) := by omega
    have z9 : (n : Int) + (M : Int) ≤ (N : Int) := by omega
    rw [hdr] at hcut hrd hlc
    rw [hN] at hcut HZ' ⊢
    have hr8 := hrd _ hr0
    clear hr0 hidx HZ hrd hlc hdr hle hN
    obtain ⟨D, hD⟩ : ∃ D, xs.drop (n + M) = D := ⟨_, rfl⟩
    rw [hD] at hcut hr8 HA hdl
    have HD := Lib.hid hD
    clear hD
    cases D with
    | nil =>
      clear hr8
      simp only [List.length_nil] at hcut
      by_cases hn0 : n = 0
      · have z0 : ((n : Int) == 0) = true := beq_iff_eq.2 (by omega)
        have z4 : (n == 0) = true := beq_iff_eq.2 hn0
        clear hn0
        go_wp2_with (go_at_call 62; refine HZ'.out.mono ?_; rintro en w2 ⟨rfl, m, rfl⟩)
        go_ret
        have e1 : accL xs e = true := by rw [HA.out, z4]; simp
        exact ⟨by rw [e1]; rfl, m, rfl⟩
      · obtain ⟨n', hn'⟩ : ∃ n', n = n' + 1 := ⟨n - 1, by omega⟩
        have z4 : (n == 0) = false := beq_eq_false_iff_ne.2 hn0
        have z0 : ((n : Int) == 0) = false := beq_eq_false_iff_ne.2 (by omega)
        have hw1 : IntKind.i64.wrap ((n : Int) - 1) = (n' : Int) := by rw [IntKind.wrap_i64]; omega
        have hn1 : n - 1 = n' := by omega
        have z1 : (n' : Int) < (N : Int) := by omega
        obtain ⟨x, hxx⟩ : ∃ x, xs[n']? = some x := ⟨_, List.getElem?_eq_getElem (by rw [HN.out]; omega)⟩
        obtain ⟨a0, ha0, hcell⟩ := HR0.out.2.2 (by rw [HN.out]; omega)
        subst ha0
        have y0 : w1.cell? (a0.add n') = some (.int .u8 x) := by
          have := hcell n' (by rw [HN.out]; omega)
          rwa [List.getD_eq_getElem?_getD, hxx] at this
        have HXX := Lib.hid hxx
        clear hn0 hn'
        clear hcell hxx
        go_wp2_with (go_at_call 62; refine HZ'.out.mono ?_; rintro en w2 ⟨rfl, m, rfl⟩)
        go_ret
        have e1 : accL xs e = (x == 32) := by rw [HA.out, z4, hn1]; simp [HXX.out]
        exact ⟨by rw [e1]; rfl, m, rfl⟩
    | cons y rest =>
      obtain ⟨a8, ha8, hc8⟩ := hr8.2.2 (by simp)
      subst ha8
      have y8 : w1.cell? a8 = some (.int .u8 y) := by simpa [Addr.add] using hc8 0 (by simp)
      obtain ⟨L, hL⟩ : ∃ L, (y :: rest).length = L + 1 := ⟨rest.length, rfl⟩
      rw [hL] at hcut
      have z5 : (0 : Int) < ((L + 1 : Nat) : Int) := by omega
      clear hr8 hc8 hL
      by_cases hy : y = 44
      · subst hy
        by_cases hn0 : n = 0
        · have z0 : ((n : Int) == 0) = true := beq_iff_eq.2 (by omega)
          have z4 : (n == 0) = true := beq_iff_eq.2 hn0
          clear hn0
          go_wp2_with (go_at_call 62; refine HZ'.out.mono ?_; rintro en w2 ⟨rfl, m, rfl⟩)
          go_ret
          have e1 : accL xs e = true := by rw [HA.out, z4]; simp
          exact ⟨by rw [e1]; rfl, m, rfl⟩
        · obtain ⟨n', hn'⟩ : ∃ n', n = n' + 1 := ⟨n - 1, by omega⟩
          have z4 : (n == 0) = false := beq_eq_false_iff_ne.2 hn0
          have z0 : ((n : Int) == 0) = false := beq_eq_false_iff_ne.2 (by omega)
          have hw1 : IntKind.i64.wrap ((n : Int) - 1) = (n' : Int) := by rw [IntKind.wrap_i64]; omega
          have hn1 : n - 1 = n' := by omega
          have z1 : (n' : Int) < (N : Int) := by omega
          obtain ⟨x, hxx⟩ : ∃ x, xs[n']? = some x := ⟨_, List.getElem?_eq_getElem (by rw [HN.out]; omega)⟩
          obtain ⟨a0, ha0, hcell⟩ := HR0.out.2.2 (by rw [HN.out]; omega)
          subst ha0
          have y0 : w1.cell? (a0.add n') = some (.int .u8 x) := by
            have := hcell n' (by rw [HN.out]; omega)
            rwa [List.getD_eq_getElem?_getD, hxx] at this
          have HXX := Lib.hid hxx
          clear hn0 hn'
          clear hcell hxx
          go_wp2_with (go_at_call 62; refine HZ'.out.mono ?_; rintro en w2 ⟨rfl, m, rfl⟩)
          go_ret
          have e1 : accL xs e = (x == 32) := by rw [HA.out, z4, hn1]; simp [HXX.out]
          exact ⟨by rw [e1]; rfl, m, rfl⟩
      · have z6 : (y != 44) = true := by simpa using hy
        have z7 : (y == 44) = false := by simpa using hy
        have HY := Lib.hid hy
        go_wp2_with (go_at_call 62; refine HZ'.out.mono ?_; rintro en w2 ⟨rfl, m, rfl⟩)
        go_ret
        have e1 : accL xs e = false := by rw [HA.out]; simp [HY.out]
        exact ⟨by rw [e1]; rfl, m, rfl⟩
end Go.Proofs.YtcbpbmflgcgmaaaDoor.Own
namespace Go.Proofs.YtcbpbmflgcgmaaaDoor.Given
open Go.RowKit Go.Proofs.YtcbpbmflgcgmaaaDoorW.PrintWords Go.Proofs.YtcbpbmflgcgmaaaDoorW.PrintLast Go.Proofs.YtcbpbmflgcgmaaaDoorW.PrintMore Go.Proofs.YtcbpbmflgcgmaaaDoor.Base Go.Proofs.YtcbpbmflgcgmaaaDoor.Gv Go.Proofs.YtcbpbmflgcgmaaaDoor.Own
theorem ae_nk : nkd false (ns aeK) = ns aeK := by decide +kernel
theorem ae_plain : plainK (nkd false (ns aeK)) := by
  rw [ae_nk]
  intro x hx
  have : (ns aeK).head? = some 65 := by decide +kernel
  rw [this] at hx
  cases hx
  decide +kernel
theorem ae_get (v : List Int) : (getKV (ns aeK) (setKV (nkd false (ns aeK)) v [])).getD [] = v := by
  rw [ae_nk]
  have : eqB (ns aeK) (ns aeK) = true := beq_self_eq_true _
  simp [setKV, getKV, this]
def impl_AcceptsEncoding.f (a0 a1 : ByteArray) : Option Bool := if a0.size ≤ 140737488351232 ∧ a1.size ≤ 140737488351232 then some (accL (ns a0) (ns a1)) else none
set_option maxHeartbeats 4000000 in
set_option maxRecDepth 100000 in
theorem accepts_calls (a0 a1 : ByteArray) (w : World) (h0 : a0.size ≤ 140737488351232) (h1 : a1.size ≤ 140737488351232) :
    Calls Tryd.prog 8 #[.string a0, .string a1] w fun e w' => e = .returned (.bool (accL (ns a0) (ns a1))) ∧ Below w.heap.size w w' := by
  go_enter Tryd.func8, Tryd.ntmps8
  go_upto_region 2 with fail
  have hcl := Cl.new (fun _ => 0) w 1 54 (RqG.new.cells RqV.new)
  change Code.wp _ _ _ _ (w.alloc (.cells (RqG.new.cells RqV.new) 54))
  have hb0 : Below w.heap.size w (w.alloc (.cells (RqG.new.cells RqV.new) 54)) := (Below.refl _ _).alloc (Nat.le_refl _) _
  obtain ⟨l0, hl0⟩ : ∃ l0, ext (fun _ => 0) w.heap.size 1 = l0 := ⟨_, rfl⟩
  have hlo : ∀ b, b < w.heap.size → l0 b = 0 := fun b hb => by rw [← hl0]; exact ext_old _ hb
  obtain ⟨p, hp⟩ : ∃ p, w.heap.size = p := ⟨_, rfl⟩
  obtain ⟨W0, hW0⟩ : ∃ W0, w.alloc (.cells (RqG.new.cells RqV.new) 54) = W0 := ⟨_, rfl⟩
  rw [hl0, hW0, hp] at hcl
  rw [hW0, hp] at hb0
  rw [hp] at hlo ⊢
  rw [hW0]
  have hrq := RqC.new (by omega) (by omega) hcl.1
  have HS := Lib.hid (rqSet_plain hrq (by decide) aeK a0 (by decide) h0 ae_plain)
  have HB0 := Lib.hid hb0
  have HLO := Lib.hid hlo
  clear hcl hb0 hlo hl0 hrq
  have HS' : Hid (Calls Tryd.prog 22 #[.pointer (some ⟨p, 0, none⟩), .string ⟨#[65, 99, 99, 101, 112, 116, 45, 69, 110, 99, 111, 100, 105, 110, 103]⟩, .string a0] W0 fun e w' => ∃ l1 G1, e = .returned (.tuple #[]) ∧ RqC l1 w' 1 p G1 { RqV.new with h := setKV (nkd RqV.new.dn (ns aeK)) (ns a0) RqV.new.h } ∧ Stp (RqZ 1) l0 l1 W0 w') := HS
  clear HS
  go_upto_region 3 with (go_at_call 22; refine HS'.out.mono ?_; rintro en w1 ⟨l1, G1, rfl, hr, hst⟩; have HRQ := Lib.hid hr; have HST := Lib.hid hst; clear hr hst)
  have hbw : Below p w w1 := (HB0.out).trans (HST.out.below (by rw [← hp]; have := HB0.out.size; omega) (fun b hb => by rw [HLO.out b hb]; unfold RqZ; omega))
  have hcv := Lib.run_convert_string_bytes (P := Tryd.prog) w1 9 47 5 a1 Tryd.underlying9 Tryd.underlying47 Tryd.underlying5
  have hcap := grownCap_ge w1 a1.size 0 5
  obtain ⟨c, hc⟩ : ∃ c, grownCap w1 a1.size 0 5 = c := ⟨_, rfl⟩
  rw [hc] at hcv hcap
  have hbr := Br.conv w1 5 a1
  have hbl := conv_below w1 5 a1
  obtain ⟨W2, hW2⟩ : ∃ W, Lib.bytesWorld w1 5 a1 = W := ⟨_, rfl⟩
  rw [hW2] at hcv hbr hbl
  have hrq2 := HRQ.out.keep (Stp.of_below_same hbl (fun _ => False) l1) (fun _ k => k.elim)
  have hbw2 := below_then hbw (by have := hbw.size; omega) hbl
  have hrd := hbr.reads (by rw [ns_length]; omega)
  have HH := rqHas_calls hrq2 (by show (setKV _ _ []).length ≤ _; simp [setKV]) (some ⟨w1.heap.size, 0, none⟩) c (ns a1) hrd (by rw [ns_length]; exact hcap) (fun x hx => ns_range a1 x hx) (by rw [ns_length]; omega)
    (by show Rg ((getKV (ns aeK) (setKV (nkd false (ns aeK)) (ns a0) [])).getD []); rw [ae_get]; exact fun x hx => ns_range a0 x hx)
    (by show ((getKV (ns aeK) (setKV (nkd false (ns aeK)) (ns a0) [])).getD []).length ≤ _; rw [ae_get, ns_length]; omega)
  rw [show (getKV (ns aeK) ({ RqV.new with h := setKV (nkd RqV.new.dn (ns aeK)) (ns a0) RqV.new.h } : RqV).h).getD [] = ns a0 from ae_get _, ns_length] at HH
  have HHH := Lib.hid HH
  have HBW := Lib.hid hbw2
  clear hbw hc hbr hbl hW2 hrq2 hbw2 hrd HH hcap
  go_wp2_with (go_at_call 23; refine HHH.out.mono ?_; rintro en w3 ⟨rfl, m, rfl⟩)
  go_ret
  exact ⟨rfl, by rw [hp]; exact pw_below_drewN HBW.out m⟩
theorem impl_AcceptsEncoding.calls (a0 a1 : ByteArray) (r : Bool) (w : World) (h : impl_AcceptsEncoding.f a0 a1 = some r) :
    Calls Tryd.prog 8 #[.string a0, .string a1] w fun e w' => e = .returned (.bool r) ∧ Below w.heap.size w w' := by
  unfold impl_AcceptsEncoding.f at h
  by_cases hbd : a0.size ≤ 140737488351232 ∧ a1.size ≤ 140737488351232
  · rw [if_pos hbd] at h
    obtain rfl := Option.some.inj h
    exact accepts_calls a0 a1 w hbd.1 hbd.2
  · rw [if_neg hbd] at h
    cases h
end Go.Proofs.YtcbpbmflgcgmaaaDoor.Given
namespace Go.Proofs.YtcbpbmflgcgmaaaDoor.QA
open Go.Proofs.YtcbpbmflgcgmaaaDoor.Given
open Go.Proofs.YtcbpbmflgcgmaaaDoor.PrX
open Go.RowKit Go.Proofs.YtcbpbmflgcgmaaaDoorW.PrintWords Go.Proofs.YtcbpbmflgcgmaaaDoorW.PrintLast Go.Proofs.YtcbpbmflgcgmaaaDoorW.PrintMore
mutual
def laws_FnAcceptsEncoding.j0 : Nat → List ByteArray → ByteArray → Bool → Option (Bool)
  | 0, _, _, _ => none
  | k + 1, x0, x1, x16 => if x16 = true then (some true) else ((impl_AcceptsEncoding.f (⟨#[103, 122, 105, 112, 44, 32, 98, 114]⟩ : ByteArray) (⟨#[98, 114]⟩ : ByteArray)).bind fun t297 => (if t297 = true then ((impl_AcceptsEncoding.f (⟨#[103, 122, 105, 112]⟩ : ByteArray) (⟨#[98, 114]⟩ : ByteArray)).bind fun t298 => (laws_FnAcceptsEncoding.j1 k x0 x1 t298)) else (laws_FnAcceptsEncoding.j1 k x0 x1 true)))
def laws_FnAcceptsEncoding.j1 : Nat → List ByteArray → ByteArray → Bool → Option (Bool)
  | 0, _, _, _ => none
  | k + 1, x0, x1, x21 => if x21 = true then (some false) else (if (x0.length : Int) > 10 then (laws_FnAcceptsEncoding.j2 k x0 x1 true) else ((laws_short.f k x0).bind fun t299 => (if t299 = true then ((laws_word.f k x1).bind fun t300 => (if t300 = true then ((laws_short.f k (([x1] : List ByteArray))).bind fun t304 => (laws_FnAcceptsEncoding.j2 k x0 x1 (!t304))) else (laws_FnAcceptsEncoding.j2 k x0 x1 true))) else (laws_FnAcceptsEncoding.j2 k x0 x1 true))))
def laws_FnAcceptsEncoding.j2 : Nat → List ByteArray → ByteArray → Bool → Option (Bool)
  | 0, _, _, _ => none
  | k + 1, x0, x1, x40 => if x40 = true then (some true) else (laws_FnAcceptsEncoding.l0 k x1 (⟨#[]⟩ : ByteArray) false x0 (x0.length : Int) 0)
def laws_FnAcceptsEncoding.l0 : Nat → ByteArray → ByteArray → Bool → List ByteArray → Int → Int → Option (Bool)
  | 0, _, _, _, _, _, _ => none
  | k + 1, x1, x5, x6, x41, x42, x43 => if x43 < x42 then (if 0 ≤ x43 then (if x43 < (x41.length : Int) then ((laws_word.f k (rdOf ByteArray.empty x41 x43)).bind fun t307 => (if t307 = true then (if (rdOf ByteArray.empty x41 x43).toList = x1.toList then (laws_FnAcceptsEncoding.j4 k x1 x5 x6 x43 (rdOf ByteArray.empty x41 x43) x41 x42 x43 false) else ((laws_stands.f k (rdOf ByteArray.empty x41 x43) x1).bind fun t308 => (laws_FnAcceptsEncoding.j4 k x1 x5 x6 x43 (rdOf ByteArray.empty x41 x43) x41 x42 x43 t308))) else (laws_FnAcceptsEncoding.j4 k x1 x5 x6 x43 (rdOf ByteArray.empty x41 x43) x41 x42 x43 true))) else (none)) else (none)) else ((impl_AcceptsEncoding.f x5 x1).bind fun t305 => (some (t305 == x6)))
def laws_FnAcceptsEncoding.j4 : Nat → ByteArray → ByteArray → Bool → Int → ByteArray → List ByteArray → Int → Int → Bool → Option (Bool)
  | 0, _, _, _, _, _, _, _, _, _ => none
  | k + 1, x1, x5, x6, x7, x8, x41, x42, x43, x60 => if x60 = true then (some true) else (if x7 > 0 then (if x5.size + 2 ≤ 9223372036854775807 then (if (x5 ++ (⟨#[44, 32]⟩ : ByteArray)).size + x8.size ≤ 9223372036854775807 then (if x6 = true then (laws_FnAcceptsEncoding.l0 k x1 ((x5 ++ (⟨#[44, 32]⟩ : ByteArray)) ++ x8) true x41 x42 (wrap64 (x43 + 1))) else (laws_FnAcceptsEncoding.l0 k x1 ((x5 ++ (⟨#[44, 32]⟩ : ByteArray)) ++ x8) (x8.toList == x1.toList) x41 x42 (wrap64 (x43 + 1)))) else (none)) else (none)) else (if x5.size + x8.size ≤ 9223372036854775807 then (if x6 = true then (laws_FnAcceptsEncoding.l0 k x1 (x5 ++ x8) true x41 x42 (wrap64 (x43 + 1))) else (laws_FnAcceptsEncoding.l0 k x1 (x5 ++ x8) (x8.toList == x1.toList) x41 x42 (wrap64 (x43 + 1)))) else (none)))
end
def laws_FnAcceptsEncoding.f (k : Nat) (l0 : List ByteArray) (a1 : ByteArray) : Option (Bool) := (laws_zzFits6.f k l0).bind fun t296 => (if t296 = true then (laws_FnAcceptsEncoding.j0 k l0 a1 (decide ((a1.size : Int) > 2147483647))) else (laws_FnAcceptsEncoding.j0 k l0 a1 true))
set_option maxHeartbeats 8000000 in
set_option maxRecDepth 100000 in
theorem laws_FnAcceptsEncoding.calls (k : Nat) (A0 : Option Addr) (c0 : Nat) (l0 : List ByteArray) (a1 : ByteArray) (r : Bool) (w : World) (hr0 : Kd.C Kd.string w A0 l0.length l0) (hc0 : l0.length ≤ c0) (h : laws_FnAcceptsEncoding.f k l0 a1 = some r) :
  Calls Tryd.prog 3 #[.slice A0 l0.length c0, .string a1] w fun e w' => e = .returned (.bool r) ∧ Below w.heap.size w w' := by
 have HR0 := Aside0.mk hr0
 have HC0 := Aside0.mk hc0
 clear hr0 hc0
 have HB := Aside0.mk (Below.refl w.heap.size w)
 have H : ((laws_zzFits6.f k l0).bind fun t296 => (if t296 = true then (laws_FnAcceptsEncoding.j0 k l0 a1 (decide ((a1.size : Int) > 2147483647))) else (laws_FnAcceptsEncoding.j0 k l0 a1 true))) = some r := h
 clear h
 have HC3 := Aside0.mk H
 clear H
 go_enter Tryd.func3, Tryd.ntmps3
 go_upto_region 1 with (fail)
 go_cut [16] (fun v16 wc => ∃ (kq : Nat) (x16_2 : Bool), v16 = .bool x16_2 ∧ Aside0 (laws_FnAcceptsEncoding.j0 kq l0 a1 x16_2 = some r) ∧ Aside0 (kq ≤ k) ∧ Aside0 (Below w.heap.size w wc))
 case first =>
  have H := HC3.out
  clear HC3
  replace H := Option.bind_eq_some_iff.mp H
  obtain ⟨t296, A40, H⟩ := H
  replace H : (if t296 = true then (laws_FnAcceptsEncoding.j0 k l0 a1 (decide ((a1.size : Int) > 2147483647))) else (laws_FnAcceptsEncoding.j0 k l0 a1 true)) = some r := H
  have A4 := Aside0.mk A40
  clear A40
  by_cases c5 : t296 = true
  ·subst c5
   have H1 : (laws_FnAcceptsEncoding.j0 k l0 a1 (decide ((a1.size : Int) > 2147483647))) = some r := by rw [if_pos rfl] at H; exact H
   clear H
   have H := H1
   clear H1
   have H' := Aside0.mk H
   clear H
   go_wp2_with (first | ((with_reducible refine gate_callee (f := 7) rfl ?_); refine goesL_ (some 10) rfl rfl Tryd.func7 (by kernel_rfl) rfl #[.slice A0 l0.length c0] rfl (by (try simp only [List.map_toArray, List.map_cons, List.map_nil]); first | done | rfl | (simp only [List.length_drop, List.length_take]; rfl)) ?_; (with_reducible refine (laws_zzFits6.calls k _ _ l0 true _ ?side1 ?side2 A4.out).mono ?_); (case side1 => repeat (first | exact (Kd.C_below HR0.out HB.out) | (with_reducible refine Kd.C_alloc ?_ _) | (with_reducible refine Kd.C_drewN ?_ _) | (with_reducible refine Kd.C_drew ?_))); (case side2 => exact HC0.out); rintro e w' ⟨rfl, ⟨nd, rfl⟩⟩; refine ⟨_, rfl, ?_⟩))
   go_meet
   case rel => exact ⟨_, (decide ((a1.size : Int) > 2147483647)), (by first | rfl | (simp; done) | (rw [prx_ne]; first | done | rfl) | (simp [*]; done)), H', ⟨by first | omega | exact Nat.le_refl _⟩, ⟨by repeat (first | (with_reducible first | exact HB.out | apply below_alloc | apply pw_below_drewN | apply below_drew1) | exact HB.out)⟩⟩
  ·replace c5 := Bool.eq_false_iff.mpr c5
   subst c5
   have H1 : (laws_FnAcceptsEncoding.j0 k l0 a1 true) = some r := by rw [if_neg (show ¬ (false = true) by decide)] at H; exact H
   clear H
   have H := H1
   clear H1
   have H' := Aside0.mk H
   clear H
   go_wp2_with (first | ((with_reducible refine gate_callee (f := 7) rfl ?_); refine goesL_ (some 10) rfl rfl Tryd.func7 (by kernel_rfl) rfl #[.slice A0 l0.length c0] rfl (by (try simp only [List.map_toArray, List.map_cons, List.map_nil]); first | done | rfl | (simp only [List.length_drop, List.length_take]; rfl)) ?_; (with_reducible refine (laws_zzFits6.calls k _ _ l0 false _ ?side1 ?side2 A4.out).mono ?_); (case side1 => repeat (first | exact (Kd.C_below HR0.out HB.out) | (with_reducible refine Kd.C_alloc ?_ _) | (with_reducible refine Kd.C_drewN ?_ _) | (with_reducible refine Kd.C_drew ?_))); (case side2 => exact HC0.out); rintro e w' ⟨rfl, ⟨nd, rfl⟩⟩; refine ⟨_, rfl, ?_⟩))
   go_meet
   case rel => exact ⟨_, (true), (by first | rfl | (simp; done) | (rw [prx_ne]; first | done | rfl) | (simp [*]; done)), H', ⟨by first | omega | exact Nat.le_refl _⟩, ⟨by repeat (first | (with_reducible first | exact HB.out | apply below_alloc | apply pw_below_drewN | apply below_drew1) | exact HB.out)⟩⟩
 case rest =>
  clear HC3
  try clear p2
  try clear c3
  try clear c5
  obtain ⟨kq, x16_2, rfl, HA, HJ2, HB⟩ := hcut
  cases kq with
  | zero => exact absurd HA.out (by simp [laws_FnAcceptsEncoding.j0])
  | succ kj2 =>
   have H := HA.out
   clear HA
   simp only [laws_FnAcceptsEncoding.j0] at H
   by_cases c6 : x16_2 = true
   ·subst c6
    have H1 : (some true) = some r := by rw [if_pos rfl] at H; exact H
    clear H
    have H := H1
    clear H1
    obtain rfl := Option.some.inj H
    go_wp2
    go_ret
    exact ⟨by first | rfl | (simp [errW_none, errW_some] <;> rfl) | (simp [*, errW_none, errW_some] <;> rfl), by repeat (first | (with_reducible first | exact HB.out | apply below_alloc | apply pw_below_drewN | apply below_drew1) | exact HB.out)⟩
   ·replace c6 := Bool.eq_false_iff.mpr c6
    subst c6
    have H1 : ((impl_AcceptsEncoding.f (⟨#[103, 122, 105, 112, 44, 32, 98, 114]⟩ : ByteArray) (⟨#[98, 114]⟩ : ByteArray)).bind fun t297 => (if t297 = true then ((impl_AcceptsEncoding.f (⟨#[103, 122, 105, 112]⟩ : ByteArray) (⟨#[98, 114]⟩ : ByteArray)).bind fun t298 => (laws_FnAcceptsEncoding.j1 kj2 l0 a1 t298)) else (laws_FnAcceptsEncoding.j1 kj2 l0 a1 true))) = some r := by rw [if_neg (show ¬ (false = true) by decide)] at H; exact H
    clear H
    have H := H1
    clear H1
    have HC7 := Aside0.mk H
    clear H
    go_upto_region 3 with (fail)
    go_cut [21] (fun v21 wc => ∃ (kq : Nat) (x21_6 : Bool), v21 = .bool x21_6 ∧ Aside0 (laws_FnAcceptsEncoding.j1 kq l0 a1 x21_6 = some r) ∧ Aside0 (kq ≤ kj2) ∧ Aside0 (Below w.heap.size w wc))
    case first =>
     have H := HC7.out
     clear HC7
     replace H := Option.bind_eq_some_iff.mp H
     obtain ⟨t297, A80, H⟩ := H
     replace H : (if t297 = true then ((impl_AcceptsEncoding.f (⟨#[103, 122, 105, 112]⟩ : ByteArray) (⟨#[98, 114]⟩ : ByteArray)).bind fun t298 => (laws_FnAcceptsEncoding.j1 kj2 l0 a1 t298)) else (laws_FnAcceptsEncoding.j1 kj2 l0 a1 true)) = some r := H
     have A8 := Aside0.mk A80
     clear A80
     by_cases c9 : t297 = true
     ·subst c9
      have H1 : ((impl_AcceptsEncoding.f (⟨#[103, 122, 105, 112]⟩ : ByteArray) (⟨#[98, 114]⟩ : ByteArray)).bind fun t298 => (laws_FnAcceptsEncoding.j1 kj2 l0 a1 t298)) = some r := by rw [if_pos rfl] at H; exact H
      clear H
      have H := H1
      clear H1
      replace H := Option.bind_eq_some_iff.mp H
      obtain ⟨t298, A100, H⟩ := H
      replace H : (laws_FnAcceptsEncoding.j1 kj2 l0 a1 t298) = some r := H
      have A10 := Aside0.mk A100
      clear A100
      have H' := Aside0.mk H
      clear H
      go_wp2_with (first | ((with_reducible refine gate_callee (f := 8) rfl ?_); refine goesL_ (some 17) rfl rfl Tryd.func8 (by kernel_rfl) rfl #[.string (⟨#[103, 122, 105, 112, 44, 32, 98, 114]⟩ : ByteArray), .string (⟨#[98, 114]⟩ : ByteArray)] rfl (by (try simp only [List.map_toArray, List.map_cons, List.map_nil]); first | done | rfl | (simp only [List.length_drop, List.length_take]; rfl)) ?_; (with_reducible refine (impl_AcceptsEncoding.calls (⟨#[103, 122, 105, 112, 44, 32, 98, 114]⟩ : ByteArray) (⟨#[98, 114]⟩ : ByteArray) true _ A8.out).mono ?_); rintro e w11 ⟨rfl, hb⟩; refine ⟨_, rfl, ?_⟩; have n0_ := Aside0.mk (below_step (by repeat (first | (with_reducible first | exact HB.out | apply below_alloc | apply pw_below_drewN | apply below_drew1) | exact HB.out)) hb); clear HB; have HB := n0_; clear n0_; (try clear hb); (try clear hb2); (try clear hk); (try clear hi)) | (go_at_call 8; (with_reducible refine (impl_AcceptsEncoding.calls (⟨#[103, 122, 105, 112]⟩ : ByteArray) (⟨#[98, 114]⟩ : ByteArray) t298 _ A10.out).mono ?_); rintro e w12 ⟨rfl, hb⟩; have n0_ := Aside0.mk (below_step (by repeat (first | (with_reducible first | exact HB.out | apply below_alloc | apply pw_below_drewN | apply below_drew1) | exact HB.out)) hb); clear HB; have HB := n0_; clear n0_; (try clear hb); (try clear hb2); (try clear hk); (try clear hi)))
      go_meet
      case rel => exact ⟨_, (t298), (by first | rfl | (simp; done) | (rw [prx_ne]; first | done | rfl) | (simp [*]; done)), H', ⟨by have := HJ2.out; first | omega | exact Nat.le_refl _⟩, ⟨by repeat (first | (with_reducible first | exact HB.out | apply below_alloc | apply pw_below_drewN | apply below_drew1) | exact HB.out)⟩⟩
     ·replace c9 := Bool.eq_false_iff.mpr c9
      subst c9
      have H1 : (laws_FnAcceptsEncoding.j1 kj2 l0 a1 true) = some r := by rw [if_neg (show ¬ (false = true) by decide)] at H; exact H
      clear H
      have H := H1
      clear H1
      have H' := Aside0.mk H
      clear H
      go_wp2_with (first | ((with_reducible refine gate_callee (f := 8) rfl ?_); refine goesL_ (some 17) rfl rfl Tryd.func8 (by kernel_rfl) rfl #[.string (⟨#[103, 122, 105, 112, 44, 32, 98, 114]⟩ : ByteArray), .string (⟨#[98, 114]⟩ : ByteArray)] rfl (by (try simp only [List.map_toArray, List.map_cons, List.map_nil]); first | done | rfl | (simp only [List.length_drop, List.length_take]; rfl)) ?_; (with_reducible refine (impl_AcceptsEncoding.calls (⟨#[103, 122, 105, 112, 44, 32, 98, 114]⟩ : ByteArray) (⟨#[98, 114]⟩ : ByteArray) false _ A8.out).mono ?_); rintro e w13 ⟨rfl, hb⟩; refine ⟨_, rfl, ?_⟩; have n0_ := Aside0.mk (below_step (by repeat (first | (with_reducible first | exact HB.out | apply below_alloc | apply pw_below_drewN | apply below_drew1) | exact HB.out)) hb); clear HB; have HB := n0_; clear n0_; (try clear hb); (try clear hb2); (try clear hk); (try clear hi)))
      go_meet
      case rel => exact ⟨_, (true), (by first | rfl | (simp; done) | (rw [prx_ne]; first | done | rfl) | (simp [*]; done)), H', ⟨by have := HJ2.out; first | omega | exact Nat.le_refl _⟩, ⟨by repeat (first | (with_reducible first | exact HB.out | apply below_alloc | apply pw_below_drewN | apply below_drew1) | exact HB.out)⟩⟩
    case rest =>
     clear HC7
     try clear p2
     try clear c3
     try clear c5
     try clear c6
     try clear c7
     try clear c8
     try clear c9
     try clear p2
     obtain ⟨kq, x21_6, rfl, HA, HJ6, HB⟩ := hcut
     cases kq with
     | zero => exact absurd HA.out (by simp [laws_FnAcceptsEncoding.j1])
     | succ kj6 =>
      have H := HA.out
      clear HA
      simp only [laws_FnAcceptsEncoding.j1] at H
      by_cases c14 : x21_6 = true
      ·subst c14
       have H1 : (some false) = some r := by rw [if_pos rfl] at H; exact H
       clear H
       have H := H1
       clear H1
       obtain rfl := Option.some.inj H
       go_wp2
       go_ret
       exact ⟨by first | rfl | (simp [errW_none, errW_some] <;> rfl) | (simp [*, errW_none, errW_some] <;> rfl), by repeat (first | (with_reducible first | exact HB.out | apply below_alloc | apply pw_below_drewN | apply below_drew1) | exact HB.out)⟩
      ·replace c14 := Bool.eq_false_iff.mpr c14
       subst c14
       have H1 : (if (l0.length : Int) > 10 then (laws_FnAcceptsEncoding.j2 kj6 l0 a1 true) else ((laws_short.f kj6 l0).bind fun t299 => (if t299 = true then ((laws_word.f kj6 a1).bind fun t300 => (if t300 = true then ((laws_short.f kj6 (([a1] : List ByteArray))).bind fun t304 => (laws_FnAcceptsEncoding.j2 kj6 l0 a1 (!t304))) else (laws_FnAcceptsEncoding.j2 kj6 l0 a1 true))) else (laws_FnAcceptsEncoding.j2 kj6 l0 a1 true)))) = some r := by rw [if_neg (show ¬ (false = true) by decide)] at H; exact H
       clear H
       have H := H1
       clear H1
       have HC15 := Aside0.mk H
       clear H
       go_upto_region 5 with (fail)
       go_cut [40] (fun v40 wc => ∃ (kq : Nat) (x40_14 : Bool), v40 = .bool x40_14 ∧ Aside0 (laws_FnAcceptsEncoding.j2 kq l0 a1 x40_14 = some r) ∧ Aside0 (kq ≤ kj6) ∧ Aside0 (Below w.heap.size w wc))
       case first =>
        have H := HC15.out
        clear HC15
        by_cases c16 : (l0.length : Int) > 10
        ·rw [if_pos c16] at H
         have c16b0 : decide (10 < (l0.length : Int)) = true := decide_eq_true c16
         have c16b1 : decide (10 < l0.length) = true := decide_eq_true (by omega)
         clear c16
         (first | rw [c16b0] | (simp only [i64_w, i32_w]; rw [c16b0]) | skip)
         have H' := Aside0.mk H
         clear H
         go_wp2
         go_meet
         case rel => exact ⟨_, (true), (by first | rfl | (simp; done) | (rw [prx_ne]; first | done | rfl) | (simp [*]; done)), H', ⟨by have := HJ2.out; have := HJ6.out; first | omega | exact Nat.le_refl _⟩, ⟨by repeat (first | (with_reducible first | exact HB.out | apply below_alloc | apply pw_below_drewN | apply below_drew1) | exact HB.out)⟩⟩
        ·rw [if_neg c16] at H
         have c16b0 : decide (10 < (l0.length : Int)) = false := decide_eq_false c16
         have c16b1 : decide (10 < l0.length) = false := decide_eq_false (by omega)
         clear c16
         (first | rw [c16b0] | (simp only [i64_w, i32_w]; rw [c16b0]) | skip)
         replace H := Option.bind_eq_some_iff.mp H
         obtain ⟨t299, A170, H⟩ := H
         replace H : (if t299 = true then ((laws_word.f kj6 a1).bind fun t300 => (if t300 = true then ((laws_short.f kj6 (([a1] : List ByteArray))).bind fun t304 => (laws_FnAcceptsEncoding.j2 kj6 l0 a1 (!t304))) else (laws_FnAcceptsEncoding.j2 kj6 l0 a1 true))) else (laws_FnAcceptsEncoding.j2 kj6 l0 a1 true)) = some r := H
         have A17 := Aside0.mk A170
         clear A170
         by_cases c18 : t299 = true
         ·subst c18
          have H1 : ((laws_word.f kj6 a1).bind fun t300 => (if t300 = true then ((laws_short.f kj6 (([a1] : List ByteArray))).bind fun t304 => (laws_FnAcceptsEncoding.j2 kj6 l0 a1 (!t304))) else (laws_FnAcceptsEncoding.j2 kj6 l0 a1 true))) = some r := by rw [if_pos rfl] at H; exact H
          clear H
          have H := H1
          clear H1
          replace H := Option.bind_eq_some_iff.mp H
          obtain ⟨t300, A190, H⟩ := H
          replace H : (if t300 = true then ((laws_short.f kj6 (([a1] : List ByteArray))).bind fun t304 => (laws_FnAcceptsEncoding.j2 kj6 l0 a1 (!t304))) else (laws_FnAcceptsEncoding.j2 kj6 l0 a1 true)) = some r := H
          have A19 := Aside0.mk A190
          clear A190
          by_cases c20 : t300 = true
          ·subst c20
           have H1 : ((laws_short.f kj6 (([a1] : List ByteArray))).bind fun t304 => (laws_FnAcceptsEncoding.j2 kj6 l0 a1 (!t304))) = some r := by rw [if_pos rfl] at H; exact H
           clear H
           have H := H1
           clear H1
           obtain ⟨y301, hy301⟩ : ∃ y_ : List ByteArray, y_ = (([a1] : List ByteArray)) := ⟨_, rfl⟩
           replace H : ((laws_short.f kj6 y301).bind fun t304 => (laws_FnAcceptsEncoding.j2 kj6 l0 a1 (!t304))) = some r := by first | (rw [hy301]; with_reducible exact H) | (have H2_ := (Option.bind_some _ _).symm.trans H; rw [hy301]; with_reducible exact H2_) | (have H2_ := (Option.bind_some _ _).symm.trans H; with_reducible exact H2_) | with_reducible exact H | (rw [hy301]; exact H) | exact H
           have Ny301 := Aside0.mk hy301
           clear hy301
           replace H := Option.bind_eq_some_iff.mp H
           obtain ⟨t304, A210, H⟩ := H
           replace H : (laws_FnAcceptsEncoding.j2 kj6 l0 a1 (!t304)) = some r := H
           have A21 := Aside0.mk A210
           clear A210
           have H' := Aside0.mk H
           clear H
           go_wp2_with (first | (go_at_call 9; (with_reducible refine (laws_short.calls kj6 _ _ l0 true _ ?side1 ?side2 A17.out).mono ?_); (case side1 => repeat (first | exact (Kd.C_below HR0.out HB.out) | (with_reducible refine Kd.C_alloc ?_ _) | (with_reducible refine Kd.C_drewN ?_ _) | (with_reducible refine Kd.C_drew ?_))); (case side2 => exact HC0.out); rintro e w' ⟨rfl, ⟨nd, rfl⟩⟩) | (go_at_call 10; (with_reducible refine (laws_word.calls kj6 a1 true _ A19.out).mono ?_); rintro e w' ⟨rfl, ⟨nd, rfl⟩⟩) | ((with_reducible refine gate_dst (N := 37) rfl ?_); (try (refine gate_guard (by rfl) ?_; dsimp only)); refine Kd.R_lit Kd.string _ 9 ?hg (N := 37) ?hd (xs := ([a1] : List ByteArray)) (inner := [.string a1]) (ok := fun _ => True) (okp := fun _ => True) ?hr ?hp (fun _ hk => hk) trivial (Below.refl _ _) (Nat.le_refl _) (by simp) ?_; (case hd => rfl); (case hg => rfl); (case hr => first | (go_simp; done) | (go_simp; rfl)); (case hp => exact (Reps.one (show Kd.M Kd.string _ _ _ a1 [.string a1] from rfl) (Reps.none _ _))); intro v302 w22 ho23 hb hg_ hnew_; clear hg_ hnew_; (first | rw [← Ny301.out] at ho23 | (simp only [Int.reduceToNat] at ho23; rw [← Ny301.out] at ho23)); have n0_ := Aside0.mk (Kd.R_lower ho23 (below_size (by repeat (first | (with_reducible first | exact HB.out | apply below_alloc | apply pw_below_drewN | apply below_drew1) | exact HB.out)))); have n1_ := Aside0.mk (below_step (by repeat (first | (with_reducible first | exact HB.out | apply below_alloc | apply pw_below_drewN | apply below_drew1) | exact HB.out)) hb); clear HB; have HO303 := n0_; have HB := n1_; clear n0_ n1_; clear hb ho23; obtain ⟨Ao24, co24, eo24⟩ := Kd.R_slice HO303.out; subst eo24) | (go_at_call 9; (with_reducible refine (laws_short.calls kj6 _ _ y301 t304 _ ?side1 ?side2 A21.out).mono ?_); (case side1 => repeat (first | exact (Kd.R_reads' HO303.out).2.2 | (with_reducible refine Kd.C_alloc ?_ _) | (with_reducible refine Kd.C_drewN ?_ _) | (with_reducible refine Kd.C_drew ?_))); (case side2 => exact (Kd.R_reads' HO303.out).2.1); rintro e w' ⟨rfl, ⟨nd, rfl⟩⟩))
           go_meet
           case rel => exact ⟨_, (!t304), (by first | rfl | (simp; done) | (rw [prx_ne]; first | done | rfl) | (simp [*]; done)), H', ⟨by have := HJ2.out; have := HJ6.out; first | omega | exact Nat.le_refl _⟩, ⟨by repeat (first | (with_reducible first | exact HB.out | apply below_alloc | apply pw_below_drewN | apply below_drew1) | exact HB.out)⟩⟩
          ·replace c20 := Bool.eq_false_iff.mpr c20
           subst c20
           have H1 : (laws_FnAcceptsEncoding.j2 kj6 l0 a1 true) = some r := by rw [if_neg (show ¬ (false = true) by decide)] at H; exact H
           clear H
           have H := H1
           clear H1
           have H' := Aside0.mk H
           clear H
           go_wp2_with (first | (go_at_call 9; (with_reducible refine (laws_short.calls kj6 _ _ l0 true _ ?side1 ?side2 A17.out).mono ?_); (case side1 => repeat (first | exact (Kd.C_below HR0.out HB.out) | (with_reducible refine Kd.C_alloc ?_ _) | (with_reducible refine Kd.C_drewN ?_ _) | (with_reducible refine Kd.C_drew ?_))); (case side2 => exact HC0.out); rintro e w' ⟨rfl, ⟨nd, rfl⟩⟩) | (go_at_call 10; (with_reducible refine (laws_word.calls kj6 a1 false _ A19.out).mono ?_); rintro e w' ⟨rfl, ⟨nd, rfl⟩⟩))
           go_meet
           case rel => exact ⟨_, (true), (by first | rfl | (simp; done) | (rw [prx_ne]; first | done | rfl) | (simp [*]; done)), H', ⟨by have := HJ2.out; have := HJ6.out; first | omega | exact Nat.le_refl _⟩, ⟨by repeat (first | (with_reducible first | exact HB.out | apply below_alloc | apply pw_below_drewN | apply below_drew1) | exact HB.out)⟩⟩
         ·replace c18 := Bool.eq_false_iff.mpr c18
          subst c18
          have H1 : (laws_FnAcceptsEncoding.j2 kj6 l0 a1 true) = some r := by rw [if_neg (show ¬ (false = true) by decide)] at H; exact H
          clear H
          have H := H1
          clear H1
          have H' := Aside0.mk H
          clear H
          go_wp2_with (first | (go_at_call 9; (with_reducible refine (laws_short.calls kj6 _ _ l0 false _ ?side1 ?side2 A17.out).mono ?_); (case side1 => repeat (first | exact (Kd.C_below HR0.out HB.out) | (with_reducible refine Kd.C_alloc ?_ _) | (with_reducible refine Kd.C_drewN ?_ _) | (with_reducible refine Kd.C_drew ?_))); (case side2 => exact HC0.out); rintro e w' ⟨rfl, ⟨nd, rfl⟩⟩))
          go_meet
          case rel => exact ⟨_, (true), (by first | rfl | (simp; done) | (rw [prx_ne]; first | done | rfl) | (simp [*]; done)), H', ⟨by have := HJ2.out; have := HJ6.out; first | omega | exact Nat.le_refl _⟩, ⟨by repeat (first | (with_reducible first | exact HB.out | apply below_alloc | apply pw_below_drewN | apply below_drew1) | exact HB.out)⟩⟩
       case rest =>
        clear HC15
        try clear c1
        try clear c2
        try clear p2
        try clear c3
        try clear c5
        try clear c6
        try clear c7
        try clear c8
        try clear c9
        try clear c14
        try clear c16
        try clear c16b0
        try clear c16b1
        try clear c18
        try clear c20
        try clear p2
        obtain ⟨kq, x40_14, rfl, HA, HJ14, HB⟩ := hcut
        cases kq with
        | zero => exact absurd HA.out (by simp [laws_FnAcceptsEncoding.j2])
        | succ kj14 =>
         have H := HA.out
         clear HA
         simp only [laws_FnAcceptsEncoding.j2] at H
         by_cases c25 : x40_14 = true
         ·subst c25
          have H1 : (some true) = some r := by rw [if_pos rfl] at H; exact H
          clear H
          have H := H1
          clear H1
          obtain rfl := Option.some.inj H
          go_wp2
          go_ret
          exact ⟨by first | rfl | (simp [errW_none, errW_some] <;> rfl) | (simp [*, errW_none, errW_some] <;> rfl), by repeat (first | (with_reducible first | exact HB.out | apply below_alloc | apply pw_below_drewN | apply below_drew1) | exact HB.out)⟩
         ·replace c25 := Bool.eq_false_iff.mpr c25
          subst c25
          have H1 : (laws_FnAcceptsEncoding.l0 kj14 a1 (⟨#[]⟩ : ByteArray) false l0 (l0.length : Int) 0) = some r := by rw [if_neg (show ¬ (false = true) by decide)] at H; exact H
          clear H
          have H := H1
          clear H1
          have H' := Aside0.mk H
          clear H
          go_wp2
          go_loopg [5, 6, 43] kj14 (fun kq v5 v6 v43 w' => ∃ (x5_4 : ByteArray) (x6_4 : Bool) (x43_4 : Int), v5 = .string x5_4 ∧ v6 = .bool x6_4 ∧ v43 = .int .i64 x43_4 ∧ Aside0 (laws_FnAcceptsEncoding.l0 kq a1 x5_4 x6_4 l0 (l0.length : Int) x43_4 = some r) ∧ Aside0 (kq ≤ kj14) ∧ Aside0 (Below w.heap.size w w'))
          case atStart => exact ⟨((⟨#[]⟩ : ByteArray)), (false), (0), (by first | rfl | (simp; done) | (rw [prx_ne]; first | done | rfl) | (simp [*]; done)), (by first | rfl | (simp; done) | (rw [prx_ne]; first | done | rfl) | (simp [*]; done)), (by first | rfl | (simp; done) | (rw [prx_ne]; first | done | rfl) | (simp [*]; done)), H', ⟨Nat.le_refl _⟩, ⟨by repeat (first | (with_reducible first | exact HB.out | apply below_alloc | apply pw_below_drewN | apply below_drew1) | exact HB.out)⟩⟩
          case round =>
           clear H'
           try clear c1
           try clear c2
           try clear p2
           try clear c3
           try clear c5
           try clear c6
           try clear c7
           try clear c8
           try clear c9
           try clear c14
           try clear c16
           try clear c16b0
           try clear c16b1
           try clear c18
           try clear c20
           try clear c25
           try clear p2
           obtain ⟨x5_4, x6_4, x43_4, rfl, rfl, rfl, HA, HK4, HB⟩ := hrel
           cases gk with
           | zero => exact absurd HA.out (by simp [laws_FnAcceptsEncoding.l0])
           | succ k4 =>
            have H := HA.out
            clear HA
            simp only [laws_FnAcceptsEncoding.l0] at H
            by_cases c26 : x43_4 < (l0.length : Int)
            ·rw [if_pos c26] at H
             have c26b0 : decide (x43_4 < (l0.length : Int)) = true := decide_eq_true c26
             clear c26
             by_cases c27 : 0 ≤ x43_4
             ·rw [if_pos c27] at H
              have c27b0 : decide (0 ≤ x43_4) = true := decide_eq_true c27
              clear c27
              by_cases c28 : x43_4 < (l0.length : Int)
              ·rw [if_pos c28] at H
               have c28b0 : decide (x43_4 < (l0.length : Int)) = true := decide_eq_true c28
               clear c28
               have HC29 := Aside0.mk H
               clear H
               have p306 : 0 ≤ (x43_4 : Int) := of_decide_eq_true (by first | (with_reducible assumption) | assumption)
               have q306 : x43_4 < (l0.length : Int) := of_decide_eq_true (by first | (with_reducible assumption) | assumption)
               obtain ⟨ad306, e306, hx306_0⟩ := Kd.at_string HR0.out x43_4 p306 q306
               cases e306
               replace hx306_0 := (HB.out.cell (World.block_lt_of_cell? w _ hx306_0)).trans hx306_0
               replace p306 := eq_true p306
               replace q306 := eq_true q306
               go_upto_region 11 with (fail)
               go_cut [60] (fun v60 wc => ∃ (kq : Nat) (x60_28 : Bool), v60 = .bool x60_28 ∧ Aside0 (laws_FnAcceptsEncoding.j4 kq a1 x5_4 x6_4 x43_4 (rdOf ByteArray.empty l0 x43_4) l0 (l0.length : Int) x43_4 x60_28 = some r) ∧ Aside0 (kq ≤ k4) ∧ Aside0 (Below w.heap.size w wc))
               case first =>
                have H := HC29.out
                clear HC29
                replace H := Option.bind_eq_some_iff.mp H
                obtain ⟨t307, A300, H⟩ := H
                replace H : (if t307 = true then (if (rdOf ByteArray.empty l0 x43_4).toList = a1.toList then (laws_FnAcceptsEncoding.j4 k4 a1 x5_4 x6_4 x43_4 (rdOf ByteArray.empty l0 x43_4) l0 (l0.length : Int) x43_4 false) else ((laws_stands.f k4 (rdOf ByteArray.empty l0 x43_4) a1).bind fun t308 => (laws_FnAcceptsEncoding.j4 k4 a1 x5_4 x6_4 x43_4 (rdOf ByteArray.empty l0 x43_4) l0 (l0.length : Int) x43_4 t308))) else (laws_FnAcceptsEncoding.j4 k4 a1 x5_4 x6_4 x43_4 (rdOf ByteArray.empty l0 x43_4) l0 (l0.length : Int) x43_4 true)) = some r := H
                have A30 := Aside0.mk A300
                clear A300
                by_cases c31 : t307 = true
                ·subst c31
                 have H1 : (if (rdOf ByteArray.empty l0 x43_4).toList = a1.toList then (laws_FnAcceptsEncoding.j4 k4 a1 x5_4 x6_4 x43_4 (rdOf ByteArray.empty l0 x43_4) l0 (l0.length : Int) x43_4 false) else ((laws_stands.f k4 (rdOf ByteArray.empty l0 x43_4) a1).bind fun t308 => (laws_FnAcceptsEncoding.j4 k4 a1 x5_4 x6_4 x43_4 (rdOf ByteArray.empty l0 x43_4) l0 (l0.length : Int) x43_4 t308))) = some r := by rw [if_pos rfl] at H; exact H
                 clear H
                 have H := H1
                 clear H1
                 by_cases c32 : (rdOf ByteArray.empty l0 x43_4).toList = a1.toList
                 ·rw [if_pos c32] at H
                  have c32b0 : ((rdOf ByteArray.empty l0 x43_4).toList == a1.toList) = true := beq_iff_eq.mpr c32
                  have c32b1 : ((rdOf ByteArray.empty l0 x43_4).toList != a1.toList) = false := bne_eq_false_iff_eq.mpr c32
                  clear c32
                  (first | rw [c32b0] | (simp only [i64_w, i32_w]; rw [c32b0]) | skip)
                  have H' := Aside0.mk H
                  clear H
                  go_wp2_with (first | ((with_reducible refine gate_callee (f := 10) rfl ?_); refine goesL_ (some 49) rfl rfl Tryd.func10 (by kernel_rfl) rfl #[.string (rdOf ByteArray.empty l0 x43_4)] rfl (by (try simp only [List.map_toArray, List.map_cons, List.map_nil]); first | done | rfl | (simp only [List.length_drop, List.length_take]; rfl)) ?_; (with_reducible refine (laws_word.calls k4 (rdOf ByteArray.empty l0 x43_4) true _ A30.out).mono ?_); rintro e w' ⟨rfl, ⟨nd, rfl⟩⟩; refine ⟨_, rfl, ?_⟩))
                  go_meet
                  case rel => exact ⟨_, (false), (by first | rfl | (simp; done) | (rw [prx_ne]; first | done | rfl) | (simp [*]; done)), H', ⟨by have := HJ2.out; have := HJ6.out; have := HJ14.out; have := HK4.out; first | omega | exact Nat.le_refl _⟩, ⟨by repeat (first | (with_reducible first | exact HB.out | apply below_alloc | apply pw_below_drewN | apply below_drew1) | exact HB.out)⟩⟩
                 ·rw [if_neg c32] at H
                  have c32b0 : ((rdOf ByteArray.empty l0 x43_4).toList == a1.toList) = false := beq_eq_false_iff_ne.mpr c32
                  have c32b1 : ((rdOf ByteArray.empty l0 x43_4).toList != a1.toList) = true := bne_iff_ne.mpr c32
                  (first | rw [c32b0] | (simp only [i64_w, i32_w]; rw [c32b0]) | skip)
                  replace H := Option.bind_eq_some_iff.mp H
                  obtain ⟨t308, A330, H⟩ := H
                  replace H : (laws_FnAcceptsEncoding.j4 k4 a1 x5_4 x6_4 x43_4 (rdOf ByteArray.empty l0 x43_4) l0 (l0.length : Int) x43_4 t308) = some r := H
                  have A33 := Aside0.mk A330
                  clear A330
                  have H' := Aside0.mk H
                  clear H
                  go_wp2_with (first | ((with_reducible refine gate_callee (f := 10) rfl ?_); refine goesL_ (some 49) rfl rfl Tryd.func10 (by kernel_rfl) rfl #[.string (rdOf ByteArray.empty l0 x43_4)] rfl (by (try simp only [List.map_toArray, List.map_cons, List.map_nil]); first | done | rfl | (simp only [List.length_drop, List.length_take]; rfl)) ?_; (with_reducible refine (laws_word.calls k4 (rdOf ByteArray.empty l0 x43_4) true _ A30.out).mono ?_); rintro e w' ⟨rfl, ⟨nd, rfl⟩⟩; refine ⟨_, rfl, ?_⟩) | (go_at_call 11; (with_reducible refine (laws_stands.calls k4 (rdOf ByteArray.empty l0 x43_4) a1 t308 _ A33.out).mono ?_); rintro e w' ⟨rfl, ⟨nd, rfl⟩⟩))
                  go_meet
                  case rel => exact ⟨_, (t308), (by first | rfl | (simp; done) | (rw [prx_ne]; first | done | rfl) | (simp [*]; done)), H', ⟨by have := HJ2.out; have := HJ6.out; have := HJ14.out; have := HK4.out; first | omega | exact Nat.le_refl _⟩, ⟨by repeat (first | (with_reducible first | exact HB.out | apply below_alloc | apply pw_below_drewN | apply below_drew1) | exact HB.out)⟩⟩
                ·replace c31 := Bool.eq_false_iff.mpr c31
                 subst c31
                 have H1 : (laws_FnAcceptsEncoding.j4 k4 a1 x5_4 x6_4 x43_4 (rdOf ByteArray.empty l0 x43_4) l0 (l0.length : Int) x43_4 true) = some r := by rw [if_neg (show ¬ (false = true) by decide)] at H; exact H
                 clear H
                 have H := H1
                 clear H1
                 have H' := Aside0.mk H
                 clear H
                 go_wp2_with (first | ((with_reducible refine gate_callee (f := 10) rfl ?_); refine goesL_ (some 49) rfl rfl Tryd.func10 (by kernel_rfl) rfl #[.string (rdOf ByteArray.empty l0 x43_4)] rfl (by (try simp only [List.map_toArray, List.map_cons, List.map_nil]); first | done | rfl | (simp only [List.length_drop, List.length_take]; rfl)) ?_; (with_reducible refine (laws_word.calls k4 (rdOf ByteArray.empty l0 x43_4) false _ A30.out).mono ?_); rintro e w' ⟨rfl, ⟨nd, rfl⟩⟩; refine ⟨_, rfl, ?_⟩))
                 go_meet
                 case rel => exact ⟨_, (true), (by first | rfl | (simp; done) | (rw [prx_ne]; first | done | rfl) | (simp [*]; done)), H', ⟨by have := HJ2.out; have := HJ6.out; have := HJ14.out; have := HK4.out; first | omega | exact Nat.le_refl _⟩, ⟨by repeat (first | (with_reducible first | exact HB.out | apply below_alloc | apply pw_below_drewN | apply below_drew1) | exact HB.out)⟩⟩
               case rest =>
                clear HC29
                try clear c1
                try clear c2
                try clear p2
                try clear c3
                try clear p3
                try clear q3
                try clear hx3
                try clear c5
                try clear c6
                try clear c7
                try clear c8
                try clear c9
                try clear c10
                try clear c14
                try clear c16
                try clear c16b0
                try clear c16b1
                try clear c18
                try clear c20
                try clear c25
                try clear c26
                try clear c26b0
                try clear c27
                try clear c27b0
                try clear c28
                try clear c28b0
                try clear p30
                try clear q30
                try clear hx30
                try clear c31
                try clear c32
                try clear c32b0
                try clear c32b1
                try clear hx306_0
                try clear p2
                try clear p306
                try clear q306
                obtain ⟨kq, x60_28, rfl, HA, HJ28, HB⟩ := hcut
                cases kq with
                | zero => exact absurd HA.out (by simp [laws_FnAcceptsEncoding.j4])
                | succ kj28 =>
                 have H := HA.out
                 clear HA
                 simp only [laws_FnAcceptsEncoding.j4] at H
                 by_cases c34 : x60_28 = true
                 ·subst c34
                  have H1 : (some true) = some r := by rw [if_pos rfl] at H; exact H
                  clear H
                  have H := H1
                  clear H1
                  obtain rfl := Option.some.inj H
                  go_wp2
                  go_ret
                  exact ⟨by first | rfl | (simp [errW_none, errW_some] <;> rfl) | (simp [*, errW_none, errW_some] <;> rfl), by repeat (first | (with_reducible first | exact HB.out | apply below_alloc | apply pw_below_drewN | apply below_drew1) | exact HB.out)⟩
                 ·replace c34 := Bool.eq_false_iff.mpr c34
                  subst c34
                  have H1 : (if x43_4 > 0 then (if x5_4.size + 2 ≤ 9223372036854775807 then (if (x5_4 ++ (⟨#[44, 32]⟩ : ByteArray)).size + (rdOf ByteArray.empty l0 x43_4).size ≤ 9223372036854775807 then (if x6_4 = true then (laws_FnAcceptsEncoding.l0 kj28 a1 ((x5_4 ++ (⟨#[44, 32]⟩ : ByteArray)) ++ (rdOf ByteArray.empty l0 x43_4)) true l0 (l0.length : Int) (wrap64 (x43_4 + 1))) else (laws_FnAcceptsEncoding.l0 kj28 a1 ((x5_4 ++ (⟨#[44, 32]⟩ : ByteArray)) ++ (rdOf ByteArray.empty l0 x43_4)) ((rdOf ByteArray.empty l0 x43_4).toList == a1.toList) l0 (l0.length : Int) (wrap64 (x43_4 + 1)))) else (none)) else (none)) else (if x5_4.size + (rdOf ByteArray.empty l0 x43_4).size ≤ 9223372036854775807 then (if x6_4 = true then (laws_FnAcceptsEncoding.l0 kj28 a1 (x5_4 ++ (rdOf ByteArray.empty l0 x43_4)) true l0 (l0.length : Int) (wrap64 (x43_4 + 1))) else (laws_FnAcceptsEncoding.l0 kj28 a1 (x5_4 ++ (rdOf ByteArray.empty l0 x43_4)) ((rdOf ByteArray.empty l0 x43_4).toList == a1.toList) l0 (l0.length : Int) (wrap64 (x43_4 + 1)))) else (none))) = some r := by rw [if_neg (show ¬ (false = true) by decide)] at H; exact H
                  clear H
                  have H := H1
                  clear H1
                  by_cases c35 : x43_4 > 0
                  ·rw [if_pos c35] at H
                   have c35b0 : decide (0 < x43_4) = true := decide_eq_true c35
                   clear c35
                   by_cases c36 : x5_4.size + 2 ≤ 9223372036854775807
                   ·rw [if_pos c36] at H
                    have c36b0 := eq_true c36
                    have c36b1 : decide (x5_4.size + 2 ≤ 9223372036854775807) = true := decide_eq_true c36
                    try have c36b2 : (9223372036854775807 < x5_4.size + 2) = False := eq_false (Nat.not_lt.2 c36)
                    try (have c36b3 := c36; simp only [ByteArray.size_append, prx_sz, List.length_cons, List.length_nil] at c36b3)
                    by_cases c37 : (x5_4 ++ (⟨#[44, 32]⟩ : ByteArray)).size + (rdOf ByteArray.empty l0 x43_4).size ≤ 9223372036854775807
                    ·rw [if_pos c37] at H
                     have c37b0 := eq_true c37
                     have c37b1 : decide ((x5_4 ++ (⟨#[44, 32]⟩ : ByteArray)).size + (rdOf ByteArray.empty l0 x43_4).size ≤ 9223372036854775807) = true := decide_eq_true c37
                     try have c37b2 : (9223372036854775807 < (x5_4 ++ (⟨#[44, 32]⟩ : ByteArray)).size + (rdOf ByteArray.empty l0 x43_4).size) = False := eq_false (Nat.not_lt.2 c37)
                     try (have c37b3 := c37; simp only [ByteArray.size_append, prx_sz, List.length_cons, List.length_nil] at c37b3)
                     by_cases c38 : x6_4 = true
                     ·subst c38
                      have H1 : (laws_FnAcceptsEncoding.l0 kj28 a1 ((x5_4 ++ (⟨#[44, 32]⟩ : ByteArray)) ++ (rdOf ByteArray.empty l0 x43_4)) true l0 (l0.length : Int) (wrap64 (x43_4 + 1))) = some r := by rw [if_pos rfl] at H; exact H
                      clear H
                      have H := H1
                      clear H1
                      have H' := Aside0.mk H
                      clear H
                      go_wp2
                      go_roundg kj28
                      case measure => have := HJ2.out; have := HJ6.out; have := HJ14.out; have := HK4.out; have := HJ28.out; omega
                      case rel => exact ⟨((x5_4 ++ (⟨#[44, 32]⟩ : ByteArray)) ++ (rdOf ByteArray.empty l0 x43_4)), (true), (wrap64 (x43_4 + 1)), (by first | rfl | (simp; done) | (rw [prx_ne]; first | done | rfl) | (simp [*]; done)), (by first | rfl | (simp; done) | (rw [prx_ne]; first | done | rfl) | (simp [*]; done)), (by first | rfl | (simp; done) | (rw [prx_ne]; first | done | rfl) | (simp [*]; done)), H', ⟨by have := HJ2.out; have := HJ6.out; have := HJ14.out; have := HK4.out; have := HJ28.out; omega⟩, ⟨by repeat (first | (with_reducible first | exact HB.out | apply below_alloc | apply pw_below_drewN | apply below_drew1) | exact HB.out)⟩⟩
                     ·replace c38 := Bool.eq_false_iff.mpr c38
                      subst c38
                      have H1 : (laws_FnAcceptsEncoding.l0 kj28 a1 ((x5_4 ++ (⟨#[44, 32]⟩ : ByteArray)) ++ (rdOf ByteArray.empty l0 x43_4)) ((rdOf ByteArray.empty l0 x43_4).toList == a1.toList) l0 (l0.length : Int) (wrap64 (x43_4 + 1))) = some r := by rw [if_neg (show ¬ (false = true) by decide)] at H; exact H
                      clear H
                      have H := H1
                      clear H1
                      have H' := Aside0.mk H
                      clear H
                      go_wp2
                      go_roundg kj28
                      case measure => have := HJ2.out; have := HJ6.out; have := HJ14.out; have := HK4.out; have := HJ28.out; omega
                      case rel => exact ⟨((x5_4 ++ (⟨#[44, 32]⟩ : ByteArray)) ++ (rdOf ByteArray.empty l0 x43_4)), (((rdOf ByteArray.empty l0 x43_4).toList == a1.toList)), (wrap64 (x43_4 + 1)), (by first | rfl | (simp; done) | (rw [prx_ne]; first | done | rfl) | (simp [*]; done)), (by first | rfl | (simp; done) | (rw [prx_ne]; first | done | rfl) | (simp [*]; done)), (by first | rfl | (simp; done) | (rw [prx_ne]; first | done | rfl) | (simp [*]; done)), H', ⟨by have := HJ2.out; have := HJ6.out; have := HJ14.out; have := HK4.out; have := HJ28.out; omega⟩, ⟨by repeat (first | (with_reducible first | exact HB.out | apply below_alloc | apply pw_below_drewN | apply below_drew1) | exact HB.out)⟩⟩
                    ·rw [if_neg c37] at H
                     exact absurd H (by simp)
                   ·rw [if_neg c36] at H
                    exact absurd H (by simp)
                  ·rw [if_neg c35] at H
                   have c35b0 : decide (0 < x43_4) = false := decide_eq_false c35
                   clear c35
                   by_cases c39 : x5_4.size + (rdOf ByteArray.empty l0 x43_4).size ≤ 9223372036854775807
                   ·rw [if_pos c39] at H
                    have c39b0 := eq_true c39
                    have c39b1 : decide (x5_4.size + (rdOf ByteArray.empty l0 x43_4).size ≤ 9223372036854775807) = true := decide_eq_true c39
                    try have c39b2 : (9223372036854775807 < x5_4.size + (rdOf ByteArray.empty l0 x43_4).size) = False := eq_false (Nat.not_lt.2 c39)
                    try (have c39b3 := c39; simp only [ByteArray.size_append, prx_sz, List.length_cons, List.length_nil] at c39b3)
                    by_cases c40 : x6_4 = true
                    ·subst c40
                     have H1 : (laws_FnAcceptsEncoding.l0 kj28 a1 (x5_4 ++ (rdOf ByteArray.empty l0 x43_4)) true l0 (l0.length : Int) (wrap64 (x43_4 + 1))) = some r := by rw [if_pos rfl] at H; exact H
                     clear H
                     have H := H1
                     clear H1
                     have H' := Aside0.mk H
                     clear H
                     go_wp2
                     go_roundg kj28
                     case measure => have := HJ2.out; have := HJ6.out; have := HJ14.out; have := HK4.out; have := HJ28.out; omega
                     case rel => exact ⟨(x5_4 ++ (rdOf ByteArray.empty l0 x43_4)), (true), (wrap64 (x43_4 + 1)), (by first | rfl | (simp; done) | (rw [prx_ne]; first | done | rfl) | (simp [*]; done)), (by first | rfl | (simp; done) | (rw [prx_ne]; first | done | rfl) | (simp [*]; done)), (by first | rfl | (simp; done) | (rw [prx_ne]; first | done | rfl) | (simp [*]; done)), H', ⟨by have := HJ2.out; have := HJ6.out; have := HJ14.out; have := HK4.out; have := HJ28.out; omega⟩, ⟨by repeat (first | (with_reducible first | exact HB.out | apply below_alloc | apply pw_below_drewN | apply below_drew1) | exact HB.out)⟩⟩
                    ·replace c40 := Bool.eq_false_iff.mpr c40
                     subst c40
                     have H1 : (laws_FnAcceptsEncoding.l0 kj28 a1 (x5_4 ++ (rdOf ByteArray.empty l0 x43_4)) ((rdOf ByteArray.empty l0 x43_4).toList == a1.toList) l0 (l0.length : Int) (wrap64 (x43_4 + 1))) = some r := by rw [if_neg (show ¬ (false = true) by decide)] at H; exact H
                     clear H
                     have H := H1
                     clear H1
                     have H' := Aside0.mk H
                     clear H
                     go_wp2
                     go_roundg kj28
                     case measure => have := HJ2.out; have := HJ6.out; have := HJ14.out; have := HK4.out; have := HJ28.out; omega
                     case rel => exact ⟨(x5_4 ++ (rdOf ByteArray.empty l0 x43_4)), (((rdOf ByteArray.empty l0 x43_4).toList == a1.toList)), (wrap64 (x43_4 + 1)), (by first | rfl | (simp; done) | (rw [prx_ne]; first | done | rfl) | (simp [*]; done)), (by first | rfl | (simp; done) | (rw [prx_ne]; first | done | rfl) | (simp [*]; done)), (by first | rfl | (simp; done) | (rw [prx_ne]; first | done | rfl) | (simp [*]; done)), H', ⟨by have := HJ2.out; have := HJ6.out; have := HJ14.out; have := HK4.out; have := HJ28.out; omega⟩, ⟨by repeat (first | (with_reducible first | exact HB.out | apply below_alloc | apply pw_below_drewN | apply below_drew1) | exact HB.out)⟩⟩
                   ·rw [if_neg c39] at H
                    exact absurd H (by simp)
              ·rw [if_neg c28] at H
               exact absurd H (by simp)
             ·rw [if_neg c27] at H
              exact absurd H (by simp)
            ·rw [if_neg c26] at H
             have c26b0 : decide (x43_4 < (l0.length : Int)) = false := decide_eq_false c26
             clear c26
             replace H := Option.bind_eq_some_iff.mp H
             obtain ⟨t305, A410, H⟩ := H
             replace H : (some (t305 == x6_4)) = some r := H
             have A41 := Aside0.mk A410
             clear A410
             obtain rfl := Option.some.inj H
             go_wp2_with (first | ((with_reducible refine gate_callee (f := 8) rfl ?_); refine goesL_ (some 77) rfl rfl Tryd.func8 (by kernel_rfl) rfl #[.string x5_4, .string a1] rfl (by (try simp only [List.map_toArray, List.map_cons, List.map_nil]); first | done | rfl | (simp only [List.length_drop, List.length_take]; rfl)) ?_; (with_reducible refine (impl_AcceptsEncoding.calls x5_4 a1 t305 _ A41.out).mono ?_); rintro e w42 ⟨rfl, hb⟩; refine ⟨_, rfl, ?_⟩; have n0_ := Aside0.mk (below_step (by repeat (first | (with_reducible first | exact HB.out | apply below_alloc | apply pw_below_drewN | apply below_drew1) | exact HB.out)) hb); clear HB; have HB := n0_; clear n0_; (try clear hb); (try clear hb2); (try clear hk); (try clear hi)))
             go_ret
             exact ⟨by first | rfl | (simp [errW_none, errW_some] <;> rfl) | (simp [*, errW_none, errW_some] <;> rfl), by repeat (first | (with_reducible first | exact HB.out | apply below_alloc | apply pw_below_drewN | apply below_drew1) | exact HB.out)⟩
def laws_FnAcceptsEncoding.Pure : Prop := ∀ (l0 : List ByteArray) (a1 : ByteArray), l0.length * 16 ≤ 140737488351232 → a1.size ≤ 140737488351232 → ∃ k, laws_FnAcceptsEncoding.f k l0 a1 = some true
theorem laws_FnAcceptsEncoding.walk (P : laws_FnAcceptsEncoding.Pure) (a0 : Option Addr) (cap0 : Nat) (l0 : List ByteArray) (a1 : ByteArray) (w : World) (w0 : Kd.C Kd.string w a0 l0.length l0) (y0 : l0.length ≤ cap0) (m0 : l0.length * 16 ≤ 140737488351232) (w1 : a1.size ≤ 140737488351232) :
    Calls Tryd.prog 3 #[.slice a0 l0.length cap0, .string a1] w fun e w' => e = .returned (.bool true) ∧ Below w.heap.size w w' := by
  obtain ⟨k, h⟩ := P l0 a1 m0 w1
  refine (laws_FnAcceptsEncoding.calls k _ _ l0 a1 true w w0 y0 h).mono ?_
  rintro e w' ⟨rfl, hd⟩
  exact ⟨rfl, hd⟩
end Go.Proofs.YtcbpbmflgcgmaaaDoor.QA
namespace Go.Proofs.YtcbpbmflgcgmaaaDoor.Pure
open Go.RowKit Go.Proofs.YtcbpbmflgcgmaaaDoor.QA Go.Proofs.YtcbpbmflgcgmaaaDoorW.PrintWords Go.Proofs.YtcbpbmflgcgmaaaDoorW.PrintLast Go.Proofs.YtcbpbmflgcgmaaaDoor.Base Go.Proofs.YtcbpbmflgcgmaaaDoor.Own Go.Proofs.YtcbpbmflgcgmaaaDoor.Given
theorem begins_pre (a b : ByteArray) : laws_begins.f a b = some (decide (ns b <+: ns a)) := by
  unfold laws_begins.f
  by_cases h : b.size ≤ a.size
  · rw [if_pos (by omega), if_pos (by omega)]
    congr 1
    rw [Bool.eq_iff_iff, beq_iff_eq, decide_eq_true_iff, toList_eq_iff, List.prefix_iff_eq_take]
    have e : ns (a.extract 0 ((b.size : Int)).toNat) = (ns a).take (ns b).length := by rw [ns_extract, ns_length]; simp
    constructor
    · intro k; rw [← e, k]
    · intro k; exact ns_inj (by rw [e]; exact k.symm)
  · rw [if_neg (by omega)]
    congr 1
    symm
    rw [decide_eq_false_iff_not]
    intro k
    have := k.length_le
    rw [ns_length, ns_length] at this
    omega
theorem idxL_none {e : List Int} : ∀ (xs : List Int), idxL e xs = none → ∀ i, ¬ e <+: xs.drop i
  | [], h, i => by
    unfold idxL at h
    split at h
    · cases h
    · rename_i he
      intro k
      rw [List.drop_nil] at k
      exact he (List.prefix_nil.1 k)
  | x :: t, h, 0 => by
    unfold idxL at h
    split at h
    · cases h
    · assumption
  | x :: t, h, i + 1 => by
    unfold idxL at h
    split at h
    · cases h
    · rw [Option.map_eq_none_iff] at h
      exact idxL_none t h i
theorem stands_from (s e : ByteArray) (hs : s.size ≤ 140737488351232) : ∀ d i : Nat, i + d = s.size + 1 →
    Ev (fun k => laws_stands.l0 k s e ((s.size : Int) + 1) (i : Int)) (decide (i ≤ s.size) && (idxL (ns e) ((ns s).drop i)).isSome) := by
  intro d
  induction d with
  | zero =>
    intro i hi
    rw [decide_eq_false (by omega), Bool.false_and]
    refine Ev.step (f := fun _ => some false) (fun k => ?_) (Ev.now _)
    simp only [laws_stands.l0]
    rw [if_neg (by omega)]
  | succ d ih =>
    intro i hi
    rw [decide_eq_true (by omega), Bool.true_and]
    refine Ev.step (f := fun k => (laws_begins.f (s.extract i s.size) e).bind fun t => (if t = true then (some true) else (laws_stands.l0 k s e ((s.size : Int) + 1) ((i + 1 : Nat) : Int)))) (fun k => ?_) ?_
    · simp only [laws_stands.l0]
      rw [if_pos (by omega), if_pos (by omega), if_pos (by omega), wrap_add (by omega) (by omega), Int.toNat_natCast]
      rfl
    · have hx : ns (s.extract i s.size) = (ns s).drop i := by rw [ns_extract, List.take_of_length_le (by rw [List.length_drop, ns_length]; omega)]
      refine Ev.call (begins_pre _ _) ?_
      rw [hx]
      by_cases hp : ns e <+: (ns s).drop i
      · rw [decide_eq_true hp, idxL_hit hp]
        exact Ev.if_true rfl (Ev.now _)
      · rw [decide_eq_false hp]
        refine Ev.if_false (by simp) ?_
        have := ih (i + 1) (by omega)
        by_cases hl : i + 1 ≤ s.size
        · rw [decide_eq_true hl, Bool.true_and] at this
          obtain ⟨x, t, hxt⟩ : ∃ x t, (ns s).drop i = x :: t := by
            cases h : (ns s).drop i with
            | nil => have := congrArg List.length h; rw [List.length_drop, ns_length] at this; simp at this; omega
            | cons x t => exact ⟨x, t, rfl⟩
          have ht : (ns s).drop (i + 1) = t := by rw [← List.drop_drop, hxt]; rfl
          rw [ht] at this
          rw [hxt] at hp ⊢
          rw [idxL, if_neg hp, Option.isSome_map]
          exact this
        · rw [decide_eq_false hl, Bool.false_and] at this
          have hd : (ns s).drop i = [] := List.drop_eq_nil_of_le (by rw [ns_length]; omega)
          rw [hd] at hp ⊢
          rw [idxL, if_neg (fun k => hp (by rw [k]; exact List.nil_prefix))]
          exact this
theorem stands_ends (s e : ByteArray) (hs : s.size ≤ 140737488351232) : Ev (fun k => laws_stands.f k s e) ((idxL (ns e) (ns s)).isSome) := by
  have := stands_from s e hs (s.size + 1) 0 (by omega)
  rw [decide_eq_true (by omega), Bool.true_and, List.drop_zero] at this
  simp only [laws_stands.f]
  rw [wrap_add (by omega) (by omega)]
  exact this
theorem joinW_snoc (x : List Int) : ∀ (A : List (List Int)), A ≠ [] → joinW (A ++ [x]) = joinW A ++ [44, 32] ++ x
  | [], h => absurd rfl h
  | [a], _ => by simp [joinW]
  | a :: b :: t, _ => by
    have := joinW_snoc x (b :: t) (by simp)
    simp only [List.cons_append, joinW] at this ⊢
    rw [this]
    simp
theorem word_wd {s : ByteArray} (h : isWord s = true) : Wd (ns s) ∧ ns s ≠ [] := by
  unfold isWord at h
  simp only [Bool.and_eq_true, List.all_eq_true] at h
  refine ⟨fun c hc => ?_, ?_⟩
  · have := h.1 c hc
    constructor
    · rintro rfl; simp [wB] at this
    · rintro rfl; simp [wB] at this
  · intro hn
    rw [hn] at h
    simp at h
def Good (e : ByteArray) (x : ByteArray) : Prop := isWord x = true ∧ (ns x ≠ ns e → idxL (ns e) (ns x) = none)
theorem FnAcceptsEncoding : laws_FnAcceptsEncoding.Pure := by
  intro l e hl he
  refine Ev.rounds ?_
  simp only [laws_FnAcceptsEncoding.f]
  have j0t : Ev (fun k => laws_FnAcceptsEncoding.j0 k l e true) true := Ev.step (f := fun _ => some true) (fun k => rfl) (Ev.now _)
  have j2t : Ev (fun k => laws_FnAcceptsEncoding.j2 k l e true) true := Ev.step (f := fun _ => some true) (fun k => rfl) (Ev.now _)
  refine Ev.bind (fits6_ends l) (Ev.ite (fun hf => ?_) (fun _ => j0t))
  by_cases hsz : (e.size : Int) > 2147483647
  · rw [decide_eq_true hsz]; exact j0t
  rw [decide_eq_false hsz]
  have a1 : impl_AcceptsEncoding.f (⟨#[103, 122, 105, 112, 44, 32, 98, 114]⟩ : ByteArray) (⟨#[98, 114]⟩ : ByteArray) = some true := by
    unfold impl_AcceptsEncoding.f
    rw [if_pos (by decide)]
    congr 1
  have a2 : impl_AcceptsEncoding.f (⟨#[103, 122, 105, 112]⟩ : ByteArray) (⟨#[98, 114]⟩ : ByteArray) = some false := by
    unfold impl_AcceptsEncoding.f
    rw [if_pos (by decide)]
    congr 1
  refine Ev.step (f := _) (fun k => by simp only [laws_FnAcceptsEncoding.j0]; rw [if_neg (by simp)]) ?_
  refine Ev.call a1 (Ev.if_true rfl (Ev.call a2 ?_))
  refine Ev.step (f := _) (fun k => by simp only [laws_FnAcceptsEncoding.j1]; rw [if_neg (by simp)]) ?_
  refine Ev.ite (fun _ => j2t) (fun h10 => ?_)
  refine Ev.bind (short_ends l (by omega)) (Ev.ite (fun hsh => ?_) (fun _ => j2t))
  refine Ev.bind (word_ends e (by omega)) (Ev.ite (fun hwe => ?_) (fun _ => j2t))
  refine Ev.bind (short_ends [e] (by simp)) ?_
  cases areShort [e] with
  | false => exact j2t
  | true =>
    obtain ⟨hwd, hne⟩ := word_wd hwe
    have hm := (areShort_mem hsh).2
    refine Ev.step (f := fun k => laws_FnAcceptsEncoding.l0 k e (⟨#[]⟩ : ByteArray) false l (l.length : Int) 0) (fun k => by simp only [laws_FnAcceptsEncoding.j2]; rw [if_neg (by simp)]) ?_
    have loop : ∀ (d i : Nat) (s : ByteArray) (is : Bool), i + d = l.length → s.size ≤ 202 * i → ns s = joinW ((l.take i).map ns) → is = ((l.take i).map ns).any (· == ns e) → (∀ x ∈ l.take i, Good e x) →
        Ev (fun k => laws_FnAcceptsEncoding.l0 k e s is l (l.length : Int) (i : Int)) true := by
      intro d
      induction d with
      | zero =>
        intro i s is hi hs hj his hg
        refine Ev.step (f := fun k => (impl_AcceptsEncoding.f s e).bind fun t => some (t == is)) (fun k => ?_) ?_
        · simp only [laws_FnAcceptsEncoding.l0]; rw [if_neg (by omega)]
        · have hf : impl_AcceptsEncoding.f s e = some is := by
            unfold impl_AcceptsEncoding.f
            rw [if_pos ⟨by omega, by omega⟩, accL_accR, hj, accR_words hwd hne _ ?_, his]
            intro y hy hye
            obtain ⟨x, hx, rfl⟩ := List.mem_map.1 hy
            exact idxL_none _ ((hg x hx).2 hye)
          exact Ev.call hf (Ev.val (by simp))
      | succ d ih =>
        intro i s is hi hs hj his hg
        have hlt : i < l.length := by omega
        have hxs := hm _ (List.getElem_mem hlt)
        have htk : l.take (i + 1) = l.take i ++ [l[i]] := List.take_succ_eq_append_getElem hlt
        have hwr : wrap64 ((i : Int) + 1) = ((i + 1 : Nat) : Int) := wrap_add (by omega) (by omega)
        have j4t : Ev (fun k => laws_FnAcceptsEncoding.j4 k e s is (i : Int) l[i] l (l.length : Int) (i : Int) true) true := Ev.step (f := fun _ => some true) (fun k => rfl) (Ev.now _)
        have j4f : Good e l[i] → Ev (fun k => laws_FnAcceptsEncoding.j4 k e s is (i : Int) l[i] l (l.length : Int) (i : Int) false) true := by
          intro hgx
          have hg' : ∀ x ∈ l.take (i + 1), Good e x := by
            intro x hx
            rw [htk] at hx
            rcases List.mem_append.1 hx with h | h
            · exact hg x h
            · rw [List.mem_singleton] at h; rw [h]; exact hgx
          have hany : ((l.take (i + 1)).map ns).any (· == ns e) = (is || (l[i].toList == e.toList)) := by
            rw [htk, List.map_append, List.any_append, ← his]
            congr 1
            simp only [List.map_cons, List.map_nil, List.any_cons, List.any_nil, Bool.or_false]
            rw [Bool.eq_iff_iff, beq_iff_eq, beq_iff_eq, toList_eq_iff]
            exact ⟨ns_inj, fun k => by rw [k]⟩
          have go : ∀ s' : ByteArray, s'.size ≤ 202 * (i + 1) → ns s' = joinW ((l.take (i + 1)).map ns) → Ev (fun k => if is = true then (laws_FnAcceptsEncoding.l0 k e s' true l (l.length : Int) ((i + 1 : Nat) : Int)) else (laws_FnAcceptsEncoding.l0 k e s' (l[i].toList == e.toList) l (l.length : Int) ((i + 1 : Nat) : Int))) true := by
            intro s' h1 h2
            refine Ev.ite (fun h => ih (i + 1) s' true (by omega) h1 h2 (by rw [hany, h]; rfl) hg') (fun h => ih (i + 1) s' _ (by omega) h1 h2 (by rw [hany]; simp [h]) hg')
          refine Ev.step (f := _) (fun k => by simp only [laws_FnAcceptsEncoding.j4]; rw [if_neg (by simp), hwr]) ?_
          have hz : (⟨#[44, 32]⟩ : ByteArray).size = 2 := rfl
          refine Ev.ite (fun h0 => Ev.if_true (by omega) (Ev.if_true (by rw [ByteArray.size_append, hz]; omega) (go _ (by rw [ByteArray.size_append, ByteArray.size_append, hz]; omega) ?_))) (fun h0 => Ev.if_true (by omega) (go _ (by rw [ByteArray.size_append]; omega) ?_))
          · rw [htk, List.map_append, List.map_cons, List.map_nil, joinW_snoc _ _ ?_, ns_append, ns_append, hj]
            · rfl
            · intro hn
              have := congrArg List.length hn
              rw [List.length_map, List.length_take, List.length_nil] at this
              omega
          · obtain rfl : i = 0 := by omega
            rw [htk, ns_append, hj]
            simp [joinW]
        refine Ev.step (f := fun k => (laws_word.f k l[i]).bind fun t => (if t = true then (if l[i].toList = e.toList then (laws_FnAcceptsEncoding.j4 k e s is (i : Int) l[i] l (l.length : Int) (i : Int) false) else ((laws_stands.f k l[i] e).bind fun t => (laws_FnAcceptsEncoding.j4 k e s is (i : Int) l[i] l (l.length : Int) (i : Int) t))) else (laws_FnAcceptsEncoding.j4 k e s is (i : Int) l[i] l (l.length : Int) (i : Int) true))) (fun k => ?_) ?_
        · simp only [laws_FnAcceptsEncoding.l0]
          rw [if_pos (by omega), if_pos (by omega), if_pos (by omega), rdOf_nat _ _ _ hlt]
        · refine Ev.bind (word_ends _ (by omega)) (Ev.ite (fun hw => Ev.ite (fun hxe => j4f ⟨hw, fun hne => absurd (by rw [(toList_eq_iff _ _).1 hxe]) hne⟩) (fun hxe => Ev.bind (stands_ends _ _ (by omega)) ?_)) (fun _ => j4t))
          cases hi2 : idxL (ns e) (ns l[i]) with
          | none => exact j4f ⟨hw, fun _ => hi2⟩
          | some n => exact j4t
    exact loop l.length 0 _ _ (by omega) (by decide) rfl rfl (fun x hx => by simp at hx)
end Go.Proofs.YtcbpbmflgcgmaaaDoor.Pure
