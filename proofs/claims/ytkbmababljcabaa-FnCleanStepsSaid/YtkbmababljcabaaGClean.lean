/- hertzutils.CleanPath walked: what it makes of a path. -/
import Derived.Test.YtkbmababljcabaaGBufA
import Derived.Test.YtkbmababljcabaaLCleanI
set_option linter.unusedVariables false
set_option linter.unusedSimpArgs false
namespace Go.Proofs.Ytkbmababljcabaa.Given
open Go.RowKit Go.Proofs.YtkbmababljcabaaW.PrintWords Go.Proofs.YtkbmababljcabaaW.PrintLast Go.Proofs.YtkbmababljcabaaW.PrintMore Go.Proofs.Ytkbmababljcabaa.Base Go.Proofs.Ytkbmababljcabaa.Gv Go.Proofs.Ytkbmababljcabaa.Cln

set_option maxHeartbeats 4000000 in
set_option maxRecDepth 100000 in
theorem clean_calls_slash (s : ByteArray) (w : World) (hs : s.size ≤ 35184372088832) (h1s : 1 < s.size) (h0 : (ns s).headD 0 = 47) :
    Calls Try.prog 52 #[.string s] w fun e w' => e = .returned (.string (strOfNums (cleanG (ns s)))) ∧ Below w.heap.size w w' := by
  have hn := ns_length s
  have hp : ns s ≠ [] := fun e => by rw [e] at hn; simp at hn; omega
  have h0s : 0 < s.size := by omega
  have hne : s.toList.isEmpty = false := by
    rw [Lib.toList_data]
    cases hh : s.data.toList with
    | nil => have h2 := Lib.size_eq s; rw [hh] at h2; simp only [List.length_nil] at h2; omega
    | cons a l => rfl
  have hb0 : bt s 0 = 47 := by have := bt_ns s 0; rw [show ((0 : Nat) : Int) = 0 from rfl] at this; rw [this, ← h0]; cases ns s <;> rfl
  have e0 : ((s[0]'h0s).toNat : Int) = 47 := (bt_at s 0 h0s).trans hb0
  have q1 : (1 : Int) < (s.size : Int) := by omega
  obtain ⟨LST, hTR'⟩ : ∃ x, bt s ((s.size : Int) - 1) = x := ⟨_, rfl⟩
  obtain ⟨TR, hTR⟩ : ∃ x, (LST == 47) = x := ⟨_, rfl⟩
  have hTR2 : (decide (1 < (ns s).length) && decide ((ns s).getD ((ns s).length - 1) 0 = 47)) = TR := by
    rw [hn, decide_eq_true h1s, Bool.true_and, ← hTR]
    have e1 : bt s ((s.size : Int) - 1) = (ns s).getD (s.size - 1) 0 := by rw [← bt_ns, show ((s.size - 1 : Nat) : Int) = (s.size : Int) - 1 by omega]
    rw [← e1, hTR']
    rfl
  have h9 : s.size - 1 < s.size := by clear hn; omega
  have e9 : (((s[s.size - 1]'h9).toNat : Int) == 47) = TR := by
    have a : ((s[s.size - 1]'h9).toNat : Int) = LST := (bt_at s ((s.size - 1 : Nat) : Int) h9).trans ((congrArg (bt s) (show ((s.size - 1 : Nat) : Int) = (s.size : Int) - 1 by clear hn; omega)).trans hTR')
    rw [a]; exact hTR
  have hst := CInv.start (ns s) hp h0
  rw [hTR2] at hst
  obtain ⟨RES, hRES⟩ : ∃ X, cl (ns s).length ((ns s).drop 1) [47] TR = X := ⟨_, rfl⟩
  rw [hRES] at hst
  have hfin : cleanG (ns s) = if RES.2 = true ∧ 1 < RES.1.length then RES.1 ++ [47] else RES.1 := by
    unfold cleanG
    rw [if_neg hp, if_pos h0, hTR2, hRES]
  have hinfo : (Try.prog.info? 5).map (fun i => (i.zero, i.size, i.bytes)) = some (some (.int .u8 0), 1, 1) := by kernel_rfl
  obtain ⟨i0, hi, hz0, hsz0, hby0⟩ := info_parts hinfo
  have hmk := run_make (P := Try.prog) w 30 5 i0 _ Try.underlying30 hi hz0 .i64 .i64 0 128 (by omega) (by omega) (by rw [hby0]; decide) (by decide)
  obtain ⟨cur, hcur⟩ : ∃ X, madeCells (Value.int .u8 0).cells ((128 : Int).toNat * i0.size) = X := ⟨_, rfl⟩
  have hcs : cur.size = 128 := by rw [← hcur, size_madeCells, hsz0]; rfl
  rw [hcur, show (0 : Int).toNat = 0 from rfl, show (128 : Int).toNat = 128 from rfl] at hmk
  have hbst : BufSt ((w.alloc (.cells cur 5)).alloc (.cells #[.slice (some ⟨w.heap.size, 0, none⟩) 0 128] 30)) (w.heap.size + 1) s.size s.size w.heap.size (ns s) [47] := by
    refine ⟨by omega, .inl ⟨rfl, ?_, w.heap.size, 128, cur, by omega, Nat.le_refl _, ?_, blk_alloc (heap_alloc_new w _) _, hcs, by omega⟩⟩
    · cases hh : ns s with
      | nil => exact absurd hh hp
      | cons c l => rw [hh] at h0; have : c = 47 := h0; subst this; rfl
    · have := heap_alloc_new (w.alloc (.cells cur 5)) (.cells #[.slice (some ⟨w.heap.size, 0, none⟩) 0 128] 30)
      simpa [BufAt] using this
  have hbel : Below w.heap.size w ((w.alloc (.cells cur 5)).alloc (.cells #[.slice (some ⟨w.heap.size, 0, none⟩) 0 128] 30)) := ((Below.refl _ _).alloc (Nat.le_refl _) _).alloc (by simp) _
  have HST := Lib.hid hst
  have HFIN := Lib.hid hfin
  have HBST := Lib.hid hbst
  have HBEL := Lib.hid hbel
  have HN := Lib.hid hn
  rw [hfin]
  obtain ⟨OUT, hOUT⟩ : ∃ X, (if RES.2 = true ∧ 1 < RES.1.length then RES.1 ++ [47] else RES.1) = X := ⟨_, rfl⟩
  rw [hOUT]
  have HOUT := Lib.hid hOUT
  clear hi hz0 hsz0 hby0 hinfo hcur hst hfin hbst hbel hcs hRES hTR2 hTR hb0 hp h0 hOUT hn
  go_enter Try.func52, Try.ntmps52
  go_wp2
  go_loopw [5, 6, 7] (fun rv wv tv wr => ∃ (r : Nat) (R : List Int) (tr : Bool), rv = .int .i64 r ∧ wv = .int .i64 R.length ∧ tv = .bool tr ∧ Hid (CInv (ns s) 0 r R tr RES) ∧ Hid (BufSt wr (w.heap.size + 1) s.size s.size w.heap.size (ns s) R) ∧ Hid (Below w.heap.size w wr)) (fun rv _ _ _ => s.size + 1 - (intOf rv).toNat)
  case atStart => exact ⟨1, [47], TR, rfl, rfl, by first | rfl | exact congrArg _ e9, HST, HBST, HBEL⟩
  case round =>
    obtain ⟨r, R, tr, rfl, rfl, rfl, HI, HB, HBL⟩ := hrel
    have hb := bt_ns s
    by_cases hlt : r < s.size
    · have hr := HN.out
      have hrl : (r : Int) < (s.size : Int) := by omega
      have r1 := HI.out
      have hrl2 : r < (ns s).length := by omega
      obtain ⟨c, hc⟩ : ∃ c, (ns s).getD r 0 = c := ⟨_, rfl⟩
      have ec : ((s[r]'hlt).toNat : Int) = c := (bt_at s (r : Int) hlt).trans ((hb r).trans hc)
      clear hr
      by_cases h47 : c = 47
      · subst h47
        have HI2 := Lib.hid (r1.slash hrl2 hc)
        clear r1 hb hc
        go_wp2
        go_roundw
        case rel => exact ⟨r + 1, R, tr, by go_num, rfl, rfl, HI2, HB, HBL⟩
        case measure => simp [intOf]; omega
      · have HC47 := Lib.hid (show (ns s).getD r 0 ≠ 47 by rw [hc]; exact h47)
        have hc47 := HC47.out
        by_cases h46 : c = 46
        · subst h46
          by_cases he : r + 1 = s.size
          · have HI2 := Lib.hid (r1.dotEnd (by rw [← HN.out] at he; exact he) hc)
            have q2 : ((r : Int) + 1 == (s.size : Int)) = true := by rw [← he]; simp
            clear r1 hb hc
            go_wp2
            go_roundw
            case rel => exact ⟨r + 1, R, true, by go_num, rfl, rfl, HI2, HB, HBL⟩
            case measure => simp [intOf]; omega
          · have hlt1 : r + 1 < s.size := by omega
            have hrl5 : r + 1 < (ns s).length := by have := HN.out; omega
            have q2 : ((r : Int) + 1 == (s.size : Int)) = false := beq_eq_false_iff_ne.2 (by omega)
            obtain ⟨c1, hc1⟩ : ∃ c, (ns s).getD (r + 1) 0 = c := ⟨_, rfl⟩
            have ec1 : ((s[r + 1]'hlt1).toNat : Int) = c1 := (bt_at s ((r + 1 : Nat) : Int) hlt1).trans ((hb (r + 1)).trans hc1)
            have hrl6 : (r : Int) + 1 < (s.size : Int) := by omega
            by_cases k47 : c1 = 47
            · subst k47
              have HI2 := Lib.hid (r1.dot hrl5 hc hc1)
              clear r1 hb hc hc1
              go_wp2
              go_roundw
              case rel => exact ⟨r + 2, R, tr, by go_num, rfl, rfl, HI2, HB, HBL⟩
              case measure => simp [intOf]; omega
            · by_cases k46 : c1 = 46
              · subst k46
                by_cases he2 : r + 2 = s.size
                · have q3 : ((r : Int) + 2 == (s.size : Int)) = true := by rw [← he2]; simp
                  have HI2 := Lib.hid (r1.back (by omega) hc hc1 (.inl (by rw [← HN.out] at he2; exact he2)))
                  clear r1 hb hc hc1
                  by_cases hR1 : 1 < R.length
                  · have hbr : backR R = R.take (backFrom R (R.length - 1)) := by unfold backR; rw [if_pos hR1]
                    rw [hbr] at HI2
                    have hw0 : ((R.length : Int) - 1) = ((R.length - 1 : Nat) : Int) := by omega
                    rcases HB.out with ⟨hbB, ⟨hLn, hRp, g, cap, cur2, hbg, hBg, hat, hg, hcs2, hcap2⟩ | ⟨hL0, g, cap, cur2, hbg, hBg, hat, hg, hLc, hLcap, hcell⟩⟩
                    · have cb := hat.cell
                      have hpk : ∀ k, k < R.length → ∀ hk : k < s.size, ((s[k]'hk).toNat : Int) = R.getD k 0 := fun k hk hk2 => (bt_at s (k : Int) hk2).trans (by rw [bt_ns, hRp, List.getD_eq_getElem?_getD, List.getD_eq_getElem?_getD, List.getElem?_take, if_pos hk])
                      have HPK := Lib.hid hpk
                      have hRs : R.length ≤ s.size := by
                        have := congrArg List.length hRp
                        rw [List.length_take, ns_length] at this
                        omega
                      clear hbB hLn hRp hbg hBg hat hg hcs2 hcap2 hpk hbr
                      go_wp2
                      go_loopw [6] (fun wv wi => ∃ k : Nat, wv = .int .i64 k ∧ 1 ≤ k ∧ k < R.length ∧ wi = wr ∧ Hid (backFrom R k = backFrom R (R.length - 1))) (fun wv _ => (intOf wv).toNat)
                      case atStart => exact ⟨R.length - 1, by first | rfl | go_num, by omega, by omega, rfl, Lib.hid rfl⟩
                      case round =>
                        obtain ⟨k, rfl, hk1, hk2, rfl, HK⟩ := hrel
                        have hks : k < s.size := by omega
                        obtain ⟨c5, hc5⟩ : ∃ c, R.getD k 0 = c := ⟨_, rfl⟩
                        have ec5 : ((s[k]'hks).toNat : Int) = c5 := (HPK.out k hk2 hks).trans hc5
                        by_cases hst : k ≤ 1 ∨ c5 = 47
                        · have HI3 := Lib.hid (show CInv (ns s) 0 (r + 3) (R.take k) tr RES by have := HI2.out; rwa [← HK.out, backFrom_stop R k (hst.imp id (fun e => hc5.trans e))] at this)
                          have HB4 := Lib.hid (HB.out.cut k (by omega))
                          have hkl : (R.take k).length = k := by rw [List.length_take]; omega
                          have HKL := Lib.hid hkl
                          clear hkl hc5
                          rcases hst with h | rfl
                          · have hnk : ¬ (1 < (k : Int)) := by omega
                            go_wp2
                            go_roundw
                            case rel => exact ⟨r + 3, R.take k, tr, by go_num, by rw [HKL.out], rfl, HI3, HB4, HBL⟩
                            case measure => simp [intOf]; omega
                          · by_cases hk1' : k ≤ 1
                            · have hnk : ¬ (1 < (k : Int)) := by omega
                              go_wp2
                              go_roundw
                              case rel => exact ⟨r + 3, R.take k, tr, by go_num, by rw [HKL.out], rfl, HI3, HB4, HBL⟩
                              case measure => simp [intOf]; omega
                            · have hnk : (1 < (k : Int)) := by omega
                              go_wp2
                              go_roundw
                              case rel => exact ⟨r + 3, R.take k, tr, by go_num, by rw [HKL.out], rfl, HI3, HB4, HBL⟩
                              case measure => simp [intOf]; omega
                        · have hst1 : 1 < k := by omega
                          have hst2 : c5 ≠ 47 := fun e => hst (.inr e)
                          have HK2 := Lib.hid (show backFrom R (k - 1) = backFrom R (R.length - 1) by rw [← backFrom_step R k hst1 (by rw [hc5]; exact hst2)]; exact HK.out)
                          have hnk : (1 < (k : Int)) := by omega
                          have ek : ((k : Int) - 1) = ((k - 1 : Nat) : Int) := by omega
                          clear hst hc5
                          go_wp2
                          go_roundw
                          case rel => exact ⟨k - 1, by first | rfl | go_num, by omega, by omega, by first | rfl | trivial, HK2⟩
                          case measure => simp [intOf]; omega
                    · have cb := hat.cell
                      have hLi : ((s.size : Int) == 0) = false := beq_eq_false_iff_ne.2 (by omega)
                      have HCE := Lib.hid (fun (k : Nat) (hk : k < R.length) => (cell_of_row wr g k _ _ (0, 0) hg).trans (hcell k hk))
                      have hRs : R.length ≤ s.size := by have := HI.out.2.2.2.1; have := HN.out; omega
                      clear hbB hL0 hbg hBg hat hg hLc hcell hbr
                      go_wp2
                      go_loopw [6] (fun wv wi => ∃ k : Nat, wv = .int .i64 k ∧ 1 ≤ k ∧ k < R.length ∧ wi = wr ∧ Hid (backFrom R k = backFrom R (R.length - 1))) (fun wv _ => (intOf wv).toNat)
                      case atStart => exact ⟨R.length - 1, by first | rfl | go_num, by omega, by omega, rfl, Lib.hid rfl⟩
                      case round =>
                        obtain ⟨k, rfl, hk1, hk2, rfl, HK⟩ := hrel
                        have hks : (k : Int) < (s.size : Int) := by omega
                        obtain ⟨c5, hc5⟩ : ∃ c, R.getD k 0 = c := ⟨_, rfl⟩
                        have ec5 := HCE.out k hk2
                        rw [hc5] at ec5
                        by_cases hst : k ≤ 1 ∨ c5 = 47
                        · have HI3 := Lib.hid (show CInv (ns s) 0 (r + 3) (R.take k) tr RES by have := HI2.out; rwa [← HK.out, backFrom_stop R k (hst.imp id (fun e => hc5.trans e))] at this)
                          have HB4 := Lib.hid (HB.out.cut k (by omega))
                          have hkl : (R.take k).length = k := by rw [List.length_take]; omega
                          have HKL := Lib.hid hkl
                          clear hkl hc5
                          rcases hst with h | rfl
                          · have hnk : ¬ (1 < (k : Int)) := by omega
                            go_wp2
                            go_roundw
                            case rel => exact ⟨r + 3, R.take k, tr, by go_num, by rw [HKL.out], rfl, HI3, HB4, HBL⟩
                            case measure => simp [intOf]; omega
                          · by_cases hk1' : k ≤ 1
                            · have hnk : ¬ (1 < (k : Int)) := by omega
                              go_wp2
                              go_roundw
                              case rel => exact ⟨r + 3, R.take k, tr, by go_num, by rw [HKL.out], rfl, HI3, HB4, HBL⟩
                              case measure => simp [intOf]; omega
                            · have hnk : (1 < (k : Int)) := by omega
                              go_wp2
                              go_roundw
                              case rel => exact ⟨r + 3, R.take k, tr, by go_num, by rw [HKL.out], rfl, HI3, HB4, HBL⟩
                              case measure => simp [intOf]; omega
                        · have hst1 : 1 < k := by omega
                          have hst2 : c5 ≠ 47 := fun e => hst (.inr e)
                          have HK2 := Lib.hid (show backFrom R (k - 1) = backFrom R (R.length - 1) by rw [← backFrom_step R k hst1 (by rw [hc5]; exact hst2)]; exact HK.out)
                          have hnk : (1 < (k : Int)) := by omega
                          have ek : ((k : Int) - 1) = ((k - 1 : Nat) : Int) := by omega
                          clear hst hc5
                          go_wp2
                          go_roundw
                          case rel => exact ⟨k - 1, by first | rfl | go_num, by omega, by omega, by first | rfl | trivial, HK2⟩
                          case measure => simp [intOf]; omega
                  · have hbr : backR R = R := by unfold backR; rw [if_neg hR1]
                    rw [hbr] at HI2
                    clear hbr
                    go_wp2
                    go_roundw
                    case rel => exact ⟨r + 3, R, tr, by go_num, rfl, rfl, HI2, HB, HBL⟩
                    case measure => simp [intOf]; omega
                · have hlt2 : r + 2 < s.size := by omega
                  have q3 : ((r : Int) + 2 == (s.size : Int)) = false := beq_eq_false_iff_ne.2 (by omega)
                  have hrl7 : (r : Int) + 2 < (s.size : Int) := by omega
                  obtain ⟨c3, hc3⟩ : ∃ c, (ns s).getD (r + 2) 0 = c := ⟨_, rfl⟩
                  have ec3 : ((s[r + 2]'hlt2).toNat : Int) = c3 := (bt_at s ((r + 2 : Nat) : Int) hlt2).trans ((hb (r + 2)).trans hc3)
                  by_cases j47 : c3 = 47
                  · subst j47
                    have HI2 := Lib.hid (r1.back (by omega) hc hc1 (.inr hc3))
                    clear r1 hb hc hc1 hc3
                    by_cases hR1 : 1 < R.length
                    · have hbr : backR R = R.take (backFrom R (R.length - 1)) := by unfold backR; rw [if_pos hR1]
                      rw [hbr] at HI2
                      have hw0 : ((R.length : Int) - 1) = ((R.length - 1 : Nat) : Int) := by omega
                      rcases HB.out with ⟨hbB, ⟨hLn, hRp, g, cap, cur2, hbg, hBg, hat, hg, hcs2, hcap2⟩ | ⟨hL0, g, cap, cur2, hbg, hBg, hat, hg, hLc, hLcap, hcell⟩⟩
                      · have cb := hat.cell
                        have hpk : ∀ k, k < R.length → ∀ hk : k < s.size, ((s[k]'hk).toNat : Int) = R.getD k 0 := fun k hk hk2 => (bt_at s (k : Int) hk2).trans (by rw [bt_ns, hRp, List.getD_eq_getElem?_getD, List.getD_eq_getElem?_getD, List.getElem?_take, if_pos hk])
                        have HPK := Lib.hid hpk
                        have hRs : R.length ≤ s.size := by
                          have := congrArg List.length hRp
                          rw [List.length_take, ns_length] at this
                          omega
                        clear hbB hLn hRp hbg hBg hat hg hcs2 hcap2 hpk hbr
                        go_wp2
                        go_loopw [6] (fun wv wi => ∃ k : Nat, wv = .int .i64 k ∧ 1 ≤ k ∧ k < R.length ∧ wi = wr ∧ Hid (backFrom R k = backFrom R (R.length - 1))) (fun wv _ => (intOf wv).toNat)
                        case atStart => exact ⟨R.length - 1, by first | rfl | go_num, by omega, by omega, rfl, Lib.hid rfl⟩
                        case round =>
                          obtain ⟨k, rfl, hk1, hk2, rfl, HK⟩ := hrel
                          have hks : k < s.size := by omega
                          obtain ⟨c5, hc5⟩ : ∃ c, R.getD k 0 = c := ⟨_, rfl⟩
                          have ec5 : ((s[k]'hks).toNat : Int) = c5 := (HPK.out k hk2 hks).trans hc5
                          by_cases hst : k ≤ 1 ∨ c5 = 47
                          · have HI3 := Lib.hid (show CInv (ns s) 0 (r + 3) (R.take k) tr RES by have := HI2.out; rwa [← HK.out, backFrom_stop R k (hst.imp id (fun e => hc5.trans e))] at this)
                            have HB4 := Lib.hid (HB.out.cut k (by omega))
                            have hkl : (R.take k).length = k := by rw [List.length_take]; omega
                            have HKL := Lib.hid hkl
                            clear hkl hc5
                            rcases hst with h | rfl
                            · have hnk : ¬ (1 < (k : Int)) := by omega
                              go_wp2
                              go_roundw
                              case rel => exact ⟨r + 3, R.take k, tr, by go_num, by rw [HKL.out], rfl, HI3, HB4, HBL⟩
                              case measure => simp [intOf]; omega
                            · by_cases hk1' : k ≤ 1
                              · have hnk : ¬ (1 < (k : Int)) := by omega
                                go_wp2
                                go_roundw
                                case rel => exact ⟨r + 3, R.take k, tr, by go_num, by rw [HKL.out], rfl, HI3, HB4, HBL⟩
                                case measure => simp [intOf]; omega
                              · have hnk : (1 < (k : Int)) := by omega
                                go_wp2
                                go_roundw
                                case rel => exact ⟨r + 3, R.take k, tr, by go_num, by rw [HKL.out], rfl, HI3, HB4, HBL⟩
                                case measure => simp [intOf]; omega
                          · have hst1 : 1 < k := by omega
                            have hst2 : c5 ≠ 47 := fun e => hst (.inr e)
                            have HK2 := Lib.hid (show backFrom R (k - 1) = backFrom R (R.length - 1) by rw [← backFrom_step R k hst1 (by rw [hc5]; exact hst2)]; exact HK.out)
                            have hnk : (1 < (k : Int)) := by omega
                            have ek : ((k : Int) - 1) = ((k - 1 : Nat) : Int) := by omega
                            clear hst hc5
                            go_wp2
                            go_roundw
                            case rel => exact ⟨k - 1, by first | rfl | go_num, by omega, by omega, by first | rfl | trivial, HK2⟩
                            case measure => simp [intOf]; omega
                      · have cb := hat.cell
                        have hLi : ((s.size : Int) == 0) = false := beq_eq_false_iff_ne.2 (by omega)
                        have HCE := Lib.hid (fun (k : Nat) (hk : k < R.length) => (cell_of_row wr g k _ _ (0, 0) hg).trans (hcell k hk))
                        have hRs : R.length ≤ s.size := by have := HI.out.2.2.2.1; have := HN.out; omega
                        clear hbB hL0 hbg hBg hat hg hLc hcell hbr
                        go_wp2
                        go_loopw [6] (fun wv wi => ∃ k : Nat, wv = .int .i64 k ∧ 1 ≤ k ∧ k < R.length ∧ wi = wr ∧ Hid (backFrom R k = backFrom R (R.length - 1))) (fun wv _ => (intOf wv).toNat)
                        case atStart => exact ⟨R.length - 1, by first | rfl | go_num, by omega, by omega, rfl, Lib.hid rfl⟩
                        case round =>
                          obtain ⟨k, rfl, hk1, hk2, rfl, HK⟩ := hrel
                          have hks : (k : Int) < (s.size : Int) := by omega
                          obtain ⟨c5, hc5⟩ : ∃ c, R.getD k 0 = c := ⟨_, rfl⟩
                          have ec5 := HCE.out k hk2
                          rw [hc5] at ec5
                          by_cases hst : k ≤ 1 ∨ c5 = 47
                          · have HI3 := Lib.hid (show CInv (ns s) 0 (r + 3) (R.take k) tr RES by have := HI2.out; rwa [← HK.out, backFrom_stop R k (hst.imp id (fun e => hc5.trans e))] at this)
                            have HB4 := Lib.hid (HB.out.cut k (by omega))
                            have hkl : (R.take k).length = k := by rw [List.length_take]; omega
                            have HKL := Lib.hid hkl
                            clear hkl hc5
                            rcases hst with h | rfl
                            · have hnk : ¬ (1 < (k : Int)) := by omega
                              go_wp2
                              go_roundw
                              case rel => exact ⟨r + 3, R.take k, tr, by go_num, by rw [HKL.out], rfl, HI3, HB4, HBL⟩
                              case measure => simp [intOf]; omega
                            · by_cases hk1' : k ≤ 1
                              · have hnk : ¬ (1 < (k : Int)) := by omega
                                go_wp2
                                go_roundw
                                case rel => exact ⟨r + 3, R.take k, tr, by go_num, by rw [HKL.out], rfl, HI3, HB4, HBL⟩
                                case measure => simp [intOf]; omega
                              · have hnk : (1 < (k : Int)) := by omega
                                go_wp2
                                go_roundw
                                case rel => exact ⟨r + 3, R.take k, tr, by go_num, by rw [HKL.out], rfl, HI3, HB4, HBL⟩
                                case measure => simp [intOf]; omega
                          · have hst1 : 1 < k := by omega
                            have hst2 : c5 ≠ 47 := fun e => hst (.inr e)
                            have HK2 := Lib.hid (show backFrom R (k - 1) = backFrom R (R.length - 1) by rw [← backFrom_step R k hst1 (by rw [hc5]; exact hst2)]; exact HK.out)
                            have hnk : (1 < (k : Int)) := by omega
                            have ek : ((k : Int) - 1) = ((k - 1 : Nat) : Int) := by omega
                            clear hst hc5
                            go_wp2
                            go_roundw
                            case rel => exact ⟨k - 1, by first | rfl | go_num, by omega, by omega, by first | rfl | trivial, HK2⟩
                            case measure => simp [intOf]; omega
                    · have hbr : backR R = R := by unfold backR; rw [if_neg hR1]
                      rw [hbr] at HI2
                      clear hbr
                      go_wp2
                      go_roundw
                      case rel => exact ⟨r + 3, R, tr, by go_num, rfl, rfl, HI2, HB, HBL⟩
                      case measure => simp [intOf]; omega
                  · have hw : wordCase (ns s) r := ⟨hc47, fun q => by
                      rcases q.2 with e | e | ⟨_, e | e⟩
                      · have := HN.out; omega
                      · rw [hc1] at e; cases e
                      · have := HN.out; omega
                      · rw [hc3] at e; exact j47 e⟩
                    have j47' : (c3 == 47) = false := beq_eq_false_iff_ne.2 j47
                    clear j47 hc3
                    clear hb hc47
                    by_cases hR1 : 1 < R.length
                    · have HR1 := Lib.hid (r1.room hrl2 HC47.out hR1)
                      have hRb : R.length < 4611686018427387904 := by have := HR1.out; omega
                      have HW : Hid (WInv (ns s) 0 r r (R ++ [47]) (addE R (((ns s).drop r).takeWhile nosl))) := Lib.hid (by have := r1.word hrl2 hw; rwa [if_pos hR1] at this)
                      have HRES := Lib.hid (fun (r2 : Nat) (R2 : List Int) (k : WInv (ns s) 0 r r2 R2 (addE R (((ns s).drop r).takeWhile nosl))) (he : r2 = (ns s).length ∨ (ns s).getD r2 0 = 47) => WInv.done r1 hrl2 hw k he)
                      clear r1 hw
                      go_wp2_with (go_at_call 73; refine (buf_app wr _ _ _ s R 47 HB.out (by omega) HBL.out.size (by have := HR1.out; omega) (by omega) (by omega)).mono ?_; rintro e w2 ⟨rfl, g1, g2⟩)
                      have HB2 := Lib.hid g1
                      have HBL2 := Lib.hid (HBL.out.trans g2)
                      clear g1 g2
                      go_loopw [5, 6] (fun rv wv wi => ∃ (r2 : Nat) (R2 : List Int), rv = .int .i64 r2 ∧ wv = .int .i64 R2.length ∧ Hid (WInv (ns s) 0 r r2 R2 (addE R (((ns s).drop r).takeWhile nosl))) ∧ Hid (BufSt wi (w.heap.size + 1) s.size s.size w.heap.size (ns s) R2) ∧ Hid (Below w.heap.size w wi)) (fun rv _ _ => s.size - (intOf rv).toNat)
                      case atStart => exact ⟨r, R ++ [47], rfl, by first | rfl | (simp; done) | go_num, HW, HB2, HBL2⟩
                      case round =>
                        obtain ⟨r2, R2, rfl, rfl, HW2, HB3, HBL3⟩ := hrel
                        have hw2 := HW2.out
                        by_cases hlt2 : r2 < s.size
                        · have hrl3 : r2 < (ns s).length := by have := HN.out; omega
                          obtain ⟨c2, hc2⟩ : ∃ c, (ns s).getD r2 0 = c := ⟨_, rfl⟩
                          have ec2 : ((s[r2]'hlt2).toNat : Int) = c2 := (bt_at s (r2 : Int) hlt2).trans ((bt_ns s r2).trans hc2)
                          have hrl4 : (r2 : Int) < (s.size : Int) := by omega
                          by_cases g47 : c2 = 47
                          · subst g47
                            have HI2 := Lib.hid (HRES.out r2 R2 hw2 (.inr hc2))
                            have hlr : r < r2 := by
                              rcases Nat.lt_or_ge r r2 with k | k
                              · exact k
                              · have e : r2 = r := by have := hw2.1; omega
                                rw [e] at hc2
                                exact absurd hc2 HC47.out
                            clear hw2 hc2
                            go_wp2
                            go_roundw
                            case rel => exact ⟨r2, R2, tr, rfl, rfl, rfl, HI2, HB3, HBL3⟩
                            case measure => simp [intOf]; omega
                          · have HW3 := Lib.hid (hw2.step hrl3 (by rw [hc2]; exact g47))
                            rw [hc2] at HW3
                            have hl1 := hw2.2.2.1
                            have hl2 := hw2.2.2.2.1
                            clear hw2 hc2
                            go_wp2_with (go_at_call 73; refine (buf_app _ _ _ _ s R2 c2 HB3.out (by omega) HBL3.out.size (by omega) (by omega) (by omega)).mono ?_; rintro e w3 ⟨rfl, g1, g2⟩)
                            go_roundw
                            case rel => exact ⟨r2 + 1, R2 ++ [c2], by go_num, by simp, HW3, Lib.hid g1, Lib.hid (HBL3.out.trans g2)⟩
                            case measure => simp [intOf]; omega
                        · have hr2 : r2 = (ns s).length := by have := hw2.2.1; have := HN.out; omega
                          have HI2 := Lib.hid (HRES.out r2 R2 hw2 (.inl hr2))
                          have hlr : r < r2 := by have := HN.out; omega
                          have hge : ¬ ((r2 : Int) < (s.size : Int)) := by omega
                          clear hw2 hr2
                          go_wp2
                          go_roundw
                          case rel => exact ⟨r2, R2, tr, rfl, rfl, rfl, HI2, HB3, HBL3⟩
                          case measure => simp [intOf]; omega
                    · have HW : Hid (WInv (ns s) 0 r r R (addE R (((ns s).drop r).takeWhile nosl))) := Lib.hid (by have := r1.word hrl2 hw; rwa [if_neg hR1] at this)
                      have HRES := Lib.hid (fun (r2 : Nat) (R2 : List Int) (k : WInv (ns s) 0 r r2 R2 (addE R (((ns s).drop r).takeWhile nosl))) (he : r2 = (ns s).length ∨ (ns s).getD r2 0 = 47) => WInv.done r1 hrl2 hw k he)
                      clear r1 hw
                      go_wp2
                      have HB2 := HB
                      have HBL2 := HBL
                      go_loopw [5, 6] (fun rv wv wi => ∃ (r2 : Nat) (R2 : List Int), rv = .int .i64 r2 ∧ wv = .int .i64 R2.length ∧ Hid (WInv (ns s) 0 r r2 R2 (addE R (((ns s).drop r).takeWhile nosl))) ∧ Hid (BufSt wi (w.heap.size + 1) s.size s.size w.heap.size (ns s) R2) ∧ Hid (Below w.heap.size w wi)) (fun rv _ _ => s.size - (intOf rv).toNat)
                      case atStart => exact ⟨r, R, rfl, by first | rfl | (simp; done) | go_num, HW, HB2, HBL2⟩
                      case round =>
                        obtain ⟨r2, R2, rfl, rfl, HW2, HB3, HBL3⟩ := hrel
                        have hw2 := HW2.out
                        by_cases hlt2 : r2 < s.size
                        · have hrl3 : r2 < (ns s).length := by have := HN.out; omega
                          obtain ⟨c2, hc2⟩ : ∃ c, (ns s).getD r2 0 = c := ⟨_, rfl⟩
                          have ec2 : ((s[r2]'hlt2).toNat : Int) = c2 := (bt_at s (r2 : Int) hlt2).trans ((bt_ns s r2).trans hc2)
                          have hrl4 : (r2 : Int) < (s.size : Int) := by omega
                          by_cases g47 : c2 = 47
                          · subst g47
                            have HI2 := Lib.hid (HRES.out r2 R2 hw2 (.inr hc2))
                            have hlr : r < r2 := by
                              rcases Nat.lt_or_ge r r2 with k | k
                              · exact k
                              · have e : r2 = r := by have := hw2.1; omega
                                rw [e] at hc2
                                exact absurd hc2 HC47.out
                            clear hw2 hc2
                            go_wp2
                            go_roundw
                            case rel => exact ⟨r2, R2, tr, rfl, rfl, rfl, HI2, HB3, HBL3⟩
                            case measure => simp [intOf]; omega
                          · have HW3 := Lib.hid (hw2.step hrl3 (by rw [hc2]; exact g47))
                            rw [hc2] at HW3
                            have hl1 := hw2.2.2.1
                            have hl2 := hw2.2.2.2.1
                            clear hw2 hc2
                            go_wp2_with (go_at_call 73; refine (buf_app _ _ _ _ s R2 c2 HB3.out (by omega) HBL3.out.size (by omega) (by omega) (by omega)).mono ?_; rintro e w3 ⟨rfl, g1, g2⟩)
                            go_roundw
                            case rel => exact ⟨r2 + 1, R2 ++ [c2], by go_num, by simp, HW3, Lib.hid g1, Lib.hid (HBL3.out.trans g2)⟩
                            case measure => simp [intOf]; omega
                        · have hr2 : r2 = (ns s).length := by have := hw2.2.1; have := HN.out; omega
                          have HI2 := Lib.hid (HRES.out r2 R2 hw2 (.inl hr2))
                          have hlr : r < r2 := by have := HN.out; omega
                          have hge : ¬ ((r2 : Int) < (s.size : Int)) := by omega
                          clear hw2 hr2
                          go_wp2
                          go_roundw
                          case rel => exact ⟨r2, R2, tr, rfl, rfl, rfl, HI2, HB3, HBL3⟩
                          case measure => simp [intOf]; omega
              · have hw : wordCase (ns s) r := ⟨hc47, fun q => by
                  rcases q.2 with e | e | ⟨e, _⟩
                  · have := HN.out; omega
                  · rw [hc1] at e; exact k47 e
                  · rw [hc1] at e; exact k46 e⟩
                clear hb hc47
                by_cases hR1 : 1 < R.length
                · have HR1 := Lib.hid (r1.room hrl2 HC47.out hR1)
                  have hRb : R.length < 4611686018427387904 := by have := HR1.out; omega
                  have HW : Hid (WInv (ns s) 0 r r (R ++ [47]) (addE R (((ns s).drop r).takeWhile nosl))) := Lib.hid (by have := r1.word hrl2 hw; rwa [if_pos hR1] at this)
                  have HRES := Lib.hid (fun (r2 : Nat) (R2 : List Int) (k : WInv (ns s) 0 r r2 R2 (addE R (((ns s).drop r).takeWhile nosl))) (he : r2 = (ns s).length ∨ (ns s).getD r2 0 = 47) => WInv.done r1 hrl2 hw k he)
                  clear r1 hw
                  go_wp2_with (go_at_call 73; refine (buf_app wr _ _ _ s R 47 HB.out (by omega) HBL.out.size (by have := HR1.out; omega) (by omega) (by omega)).mono ?_; rintro e w2 ⟨rfl, g1, g2⟩)
                  have HB2 := Lib.hid g1
                  have HBL2 := Lib.hid (HBL.out.trans g2)
                  clear g1 g2
                  go_loopw [5, 6] (fun rv wv wi => ∃ (r2 : Nat) (R2 : List Int), rv = .int .i64 r2 ∧ wv = .int .i64 R2.length ∧ Hid (WInv (ns s) 0 r r2 R2 (addE R (((ns s).drop r).takeWhile nosl))) ∧ Hid (BufSt wi (w.heap.size + 1) s.size s.size w.heap.size (ns s) R2) ∧ Hid (Below w.heap.size w wi)) (fun rv _ _ => s.size - (intOf rv).toNat)
                  case atStart => exact ⟨r, R ++ [47], rfl, by first | rfl | (simp; done) | go_num, HW, HB2, HBL2⟩
                  case round =>
                    obtain ⟨r2, R2, rfl, rfl, HW2, HB3, HBL3⟩ := hrel
                    have hw2 := HW2.out
                    by_cases hlt2 : r2 < s.size
                    · have hrl3 : r2 < (ns s).length := by have := HN.out; omega
                      obtain ⟨c2, hc2⟩ : ∃ c, (ns s).getD r2 0 = c := ⟨_, rfl⟩
                      have ec2 : ((s[r2]'hlt2).toNat : Int) = c2 := (bt_at s (r2 : Int) hlt2).trans ((bt_ns s r2).trans hc2)
                      have hrl4 : (r2 : Int) < (s.size : Int) := by omega
                      by_cases g47 : c2 = 47
                      · subst g47
                        have HI2 := Lib.hid (HRES.out r2 R2 hw2 (.inr hc2))
                        have hlr : r < r2 := by
                          rcases Nat.lt_or_ge r r2 with k | k
                          · exact k
                          · have e : r2 = r := by have := hw2.1; omega
                            rw [e] at hc2
                            exact absurd hc2 HC47.out
                        clear hw2 hc2
                        go_wp2
                        go_roundw
                        case rel => exact ⟨r2, R2, tr, rfl, rfl, rfl, HI2, HB3, HBL3⟩
                        case measure => simp [intOf]; omega
                      · have HW3 := Lib.hid (hw2.step hrl3 (by rw [hc2]; exact g47))
                        rw [hc2] at HW3
                        have hl1 := hw2.2.2.1
                        have hl2 := hw2.2.2.2.1
                        clear hw2 hc2
                        go_wp2_with (go_at_call 73; refine (buf_app _ _ _ _ s R2 c2 HB3.out (by omega) HBL3.out.size (by omega) (by omega) (by omega)).mono ?_; rintro e w3 ⟨rfl, g1, g2⟩)
                        go_roundw
                        case rel => exact ⟨r2 + 1, R2 ++ [c2], by go_num, by simp, HW3, Lib.hid g1, Lib.hid (HBL3.out.trans g2)⟩
                        case measure => simp [intOf]; omega
                    · have hr2 : r2 = (ns s).length := by have := hw2.2.1; have := HN.out; omega
                      have HI2 := Lib.hid (HRES.out r2 R2 hw2 (.inl hr2))
                      have hlr : r < r2 := by have := HN.out; omega
                      have hge : ¬ ((r2 : Int) < (s.size : Int)) := by omega
                      clear hw2 hr2
                      go_wp2
                      go_roundw
                      case rel => exact ⟨r2, R2, tr, rfl, rfl, rfl, HI2, HB3, HBL3⟩
                      case measure => simp [intOf]; omega
                · have HW : Hid (WInv (ns s) 0 r r R (addE R (((ns s).drop r).takeWhile nosl))) := Lib.hid (by have := r1.word hrl2 hw; rwa [if_neg hR1] at this)
                  have HRES := Lib.hid (fun (r2 : Nat) (R2 : List Int) (k : WInv (ns s) 0 r r2 R2 (addE R (((ns s).drop r).takeWhile nosl))) (he : r2 = (ns s).length ∨ (ns s).getD r2 0 = 47) => WInv.done r1 hrl2 hw k he)
                  clear r1 hw
                  go_wp2
                  have HB2 := HB
                  have HBL2 := HBL
                  go_loopw [5, 6] (fun rv wv wi => ∃ (r2 : Nat) (R2 : List Int), rv = .int .i64 r2 ∧ wv = .int .i64 R2.length ∧ Hid (WInv (ns s) 0 r r2 R2 (addE R (((ns s).drop r).takeWhile nosl))) ∧ Hid (BufSt wi (w.heap.size + 1) s.size s.size w.heap.size (ns s) R2) ∧ Hid (Below w.heap.size w wi)) (fun rv _ _ => s.size - (intOf rv).toNat)
                  case atStart => exact ⟨r, R, rfl, by first | rfl | (simp; done) | go_num, HW, HB2, HBL2⟩
                  case round =>
                    obtain ⟨r2, R2, rfl, rfl, HW2, HB3, HBL3⟩ := hrel
                    have hw2 := HW2.out
                    by_cases hlt2 : r2 < s.size
                    · have hrl3 : r2 < (ns s).length := by have := HN.out; omega
                      obtain ⟨c2, hc2⟩ : ∃ c, (ns s).getD r2 0 = c := ⟨_, rfl⟩
                      have ec2 : ((s[r2]'hlt2).toNat : Int) = c2 := (bt_at s (r2 : Int) hlt2).trans ((bt_ns s r2).trans hc2)
                      have hrl4 : (r2 : Int) < (s.size : Int) := by omega
                      by_cases g47 : c2 = 47
                      · subst g47
                        have HI2 := Lib.hid (HRES.out r2 R2 hw2 (.inr hc2))
                        have hlr : r < r2 := by
                          rcases Nat.lt_or_ge r r2 with k | k
                          · exact k
                          · have e : r2 = r := by have := hw2.1; omega
                            rw [e] at hc2
                            exact absurd hc2 HC47.out
                        clear hw2 hc2
                        go_wp2
                        go_roundw
                        case rel => exact ⟨r2, R2, tr, rfl, rfl, rfl, HI2, HB3, HBL3⟩
                        case measure => simp [intOf]; omega
                      · have HW3 := Lib.hid (hw2.step hrl3 (by rw [hc2]; exact g47))
                        rw [hc2] at HW3
                        have hl1 := hw2.2.2.1
                        have hl2 := hw2.2.2.2.1
                        clear hw2 hc2
                        go_wp2_with (go_at_call 73; refine (buf_app _ _ _ _ s R2 c2 HB3.out (by omega) HBL3.out.size (by omega) (by omega) (by omega)).mono ?_; rintro e w3 ⟨rfl, g1, g2⟩)
                        go_roundw
                        case rel => exact ⟨r2 + 1, R2 ++ [c2], by go_num, by simp, HW3, Lib.hid g1, Lib.hid (HBL3.out.trans g2)⟩
                        case measure => simp [intOf]; omega
                    · have hr2 : r2 = (ns s).length := by have := hw2.2.1; have := HN.out; omega
                      have HI2 := Lib.hid (HRES.out r2 R2 hw2 (.inl hr2))
                      have hlr : r < r2 := by have := HN.out; omega
                      have hge : ¬ ((r2 : Int) < (s.size : Int)) := by omega
                      clear hw2 hr2
                      go_wp2
                      go_roundw
                      case rel => exact ⟨r2, R2, tr, rfl, rfl, rfl, HI2, HB3, HBL3⟩
                      case measure => simp [intOf]; omega
        · have hw : wordCase (ns s) r := ⟨hc47, fun q => h46 (hc.symm.trans q.1)⟩
          clear hb hc47
          by_cases hR1 : 1 < R.length
          · have HR1 := Lib.hid (r1.room hrl2 HC47.out hR1)
            have hRb : R.length < 4611686018427387904 := by have := HR1.out; omega
            have HW : Hid (WInv (ns s) 0 r r (R ++ [47]) (addE R (((ns s).drop r).takeWhile nosl))) := Lib.hid (by have := r1.word hrl2 hw; rwa [if_pos hR1] at this)
            have HRES := Lib.hid (fun (r2 : Nat) (R2 : List Int) (k : WInv (ns s) 0 r r2 R2 (addE R (((ns s).drop r).takeWhile nosl))) (he : r2 = (ns s).length ∨ (ns s).getD r2 0 = 47) => WInv.done r1 hrl2 hw k he)
            clear r1 hw
            go_wp2_with (go_at_call 73; refine (buf_app wr _ _ _ s R 47 HB.out (by omega) HBL.out.size (by have := HR1.out; omega) (by omega) (by omega)).mono ?_; rintro e w2 ⟨rfl, g1, g2⟩)
            have HB2 := Lib.hid g1
            have HBL2 := Lib.hid (HBL.out.trans g2)
            clear g1 g2
            go_loopw [5, 6] (fun rv wv wi => ∃ (r2 : Nat) (R2 : List Int), rv = .int .i64 r2 ∧ wv = .int .i64 R2.length ∧ Hid (WInv (ns s) 0 r r2 R2 (addE R (((ns s).drop r).takeWhile nosl))) ∧ Hid (BufSt wi (w.heap.size + 1) s.size s.size w.heap.size (ns s) R2) ∧ Hid (Below w.heap.size w wi)) (fun rv _ _ => s.size - (intOf rv).toNat)
            case atStart => exact ⟨r, R ++ [47], rfl, by first | rfl | (simp; done) | go_num, HW, HB2, HBL2⟩
            case round =>
              obtain ⟨r2, R2, rfl, rfl, HW2, HB3, HBL3⟩ := hrel
              have hw2 := HW2.out
              by_cases hlt2 : r2 < s.size
              · have hrl3 : r2 < (ns s).length := by have := HN.out; omega
                obtain ⟨c2, hc2⟩ : ∃ c, (ns s).getD r2 0 = c := ⟨_, rfl⟩
                have ec2 : ((s[r2]'hlt2).toNat : Int) = c2 := (bt_at s (r2 : Int) hlt2).trans ((bt_ns s r2).trans hc2)
                have hrl4 : (r2 : Int) < (s.size : Int) := by omega
                by_cases g47 : c2 = 47
                · subst g47
                  have HI2 := Lib.hid (HRES.out r2 R2 hw2 (.inr hc2))
                  have hlr : r < r2 := by
                    rcases Nat.lt_or_ge r r2 with k | k
                    · exact k
                    · have e : r2 = r := by have := hw2.1; omega
                      rw [e] at hc2
                      exact absurd hc2 HC47.out
                  clear hw2 hc2
                  go_wp2
                  go_roundw
                  case rel => exact ⟨r2, R2, tr, rfl, rfl, rfl, HI2, HB3, HBL3⟩
                  case measure => simp [intOf]; omega
                · have HW3 := Lib.hid (hw2.step hrl3 (by rw [hc2]; exact g47))
                  rw [hc2] at HW3
                  have hl1 := hw2.2.2.1
                  have hl2 := hw2.2.2.2.1
                  clear hw2 hc2
                  go_wp2_with (go_at_call 73; refine (buf_app _ _ _ _ s R2 c2 HB3.out (by omega) HBL3.out.size (by omega) (by omega) (by omega)).mono ?_; rintro e w3 ⟨rfl, g1, g2⟩)
                  go_roundw
                  case rel => exact ⟨r2 + 1, R2 ++ [c2], by go_num, by simp, HW3, Lib.hid g1, Lib.hid (HBL3.out.trans g2)⟩
                  case measure => simp [intOf]; omega
              · have hr2 : r2 = (ns s).length := by have := hw2.2.1; have := HN.out; omega
                have HI2 := Lib.hid (HRES.out r2 R2 hw2 (.inl hr2))
                have hlr : r < r2 := by have := HN.out; omega
                have hge : ¬ ((r2 : Int) < (s.size : Int)) := by omega
                clear hw2 hr2
                go_wp2
                go_roundw
                case rel => exact ⟨r2, R2, tr, rfl, rfl, rfl, HI2, HB3, HBL3⟩
                case measure => simp [intOf]; omega
          · have HW : Hid (WInv (ns s) 0 r r R (addE R (((ns s).drop r).takeWhile nosl))) := Lib.hid (by have := r1.word hrl2 hw; rwa [if_neg hR1] at this)
            have HRES := Lib.hid (fun (r2 : Nat) (R2 : List Int) (k : WInv (ns s) 0 r r2 R2 (addE R (((ns s).drop r).takeWhile nosl))) (he : r2 = (ns s).length ∨ (ns s).getD r2 0 = 47) => WInv.done r1 hrl2 hw k he)
            clear r1 hw
            go_wp2
            have HB2 := HB
            have HBL2 := HBL
            go_loopw [5, 6] (fun rv wv wi => ∃ (r2 : Nat) (R2 : List Int), rv = .int .i64 r2 ∧ wv = .int .i64 R2.length ∧ Hid (WInv (ns s) 0 r r2 R2 (addE R (((ns s).drop r).takeWhile nosl))) ∧ Hid (BufSt wi (w.heap.size + 1) s.size s.size w.heap.size (ns s) R2) ∧ Hid (Below w.heap.size w wi)) (fun rv _ _ => s.size - (intOf rv).toNat)
            case atStart => exact ⟨r, R, rfl, by first | rfl | (simp; done) | go_num, HW, HB2, HBL2⟩
            case round =>
              obtain ⟨r2, R2, rfl, rfl, HW2, HB3, HBL3⟩ := hrel
              have hw2 := HW2.out
              by_cases hlt2 : r2 < s.size
              · have hrl3 : r2 < (ns s).length := by have := HN.out; omega
                obtain ⟨c2, hc2⟩ : ∃ c, (ns s).getD r2 0 = c := ⟨_, rfl⟩
                have ec2 : ((s[r2]'hlt2).toNat : Int) = c2 := (bt_at s (r2 : Int) hlt2).trans ((bt_ns s r2).trans hc2)
                have hrl4 : (r2 : Int) < (s.size : Int) := by omega
                by_cases g47 : c2 = 47
                · subst g47
                  have HI2 := Lib.hid (HRES.out r2 R2 hw2 (.inr hc2))
                  have hlr : r < r2 := by
                    rcases Nat.lt_or_ge r r2 with k | k
                    · exact k
                    · have e : r2 = r := by have := hw2.1; omega
                      rw [e] at hc2
                      exact absurd hc2 HC47.out
                  clear hw2 hc2
                  go_wp2
                  go_roundw
                  case rel => exact ⟨r2, R2, tr, rfl, rfl, rfl, HI2, HB3, HBL3⟩
                  case measure => simp [intOf]; omega
                · have HW3 := Lib.hid (hw2.step hrl3 (by rw [hc2]; exact g47))
                  rw [hc2] at HW3
                  have hl1 := hw2.2.2.1
                  have hl2 := hw2.2.2.2.1
                  clear hw2 hc2
                  go_wp2_with (go_at_call 73; refine (buf_app _ _ _ _ s R2 c2 HB3.out (by omega) HBL3.out.size (by omega) (by omega) (by omega)).mono ?_; rintro e w3 ⟨rfl, g1, g2⟩)
                  go_roundw
                  case rel => exact ⟨r2 + 1, R2 ++ [c2], by go_num, by simp, HW3, Lib.hid g1, Lib.hid (HBL3.out.trans g2)⟩
                  case measure => simp [intOf]; omega
              · have hr2 : r2 = (ns s).length := by have := hw2.2.1; have := HN.out; omega
                have HI2 := Lib.hid (HRES.out r2 R2 hw2 (.inl hr2))
                have hlr : r < r2 := by have := HN.out; omega
                have hge : ¬ ((r2 : Int) < (s.size : Int)) := by omega
                clear hw2 hr2
                go_wp2
                go_roundw
                case rel => exact ⟨r2, R2, tr, rfl, rfl, rfl, HI2, HB3, HBL3⟩
                case measure => simp [intOf]; omega
    · have HX := Lib.hid (HI.out.exit (by have := HN.out; omega))
      have hge : ¬ ((r : Int) < (s.size : Int)) := by omega
      have hx1 := HX.out.1
      have hl0 := HI.out.2.2.2.1
      have hl1 := HI.out.1
      have hnl := HN.out
      by_cases hT : tr = true ∧ 1 < R.length
      · have hRl : R.length < s.size := by have := HX.out.2 hT.1 hT.2; omega
        have HO : Hid (R ++ [47] = OUT) := Lib.hid (by have := HOUT.out; rw [hx1] at this; rwa [if_pos hT] at this)
        obtain ⟨rfl, hR1⟩ := hT
        clear hx1 hb hnl hl0
        go_upto_region 41 with (go_at_call 73; refine (buf_app wr _ _ _ s R 47 HB.out (by omega) HBL.out.size (by omega) (by omega) (by omega)).mono ?_; rintro e w2 ⟨rfl, g1, g2⟩)
        have hlen : (R ++ [47]).length = R.length + 1 := by simp
        have HB5 := Lib.hid (HBL.out.trans g2)
        have hfw := BufSt.fin g1 (by omega)
        rw [hlen, HO.out] at hfw
        have hRp : (R.length : Int) + 1 ≤ s.size := by omega
        clear g1 g2 hlen
        rcases hfw with ⟨g, cap, cb, hle, hex⟩ | ⟨hL0, g, cap, cb, hle, hcv⟩
        · go_wp2
          go_ret
          exact ⟨by first | rfl | (rw [hex]; rfl), HB5.out⟩
        · have hLn : ((s.size : Int) == 0) = false := beq_eq_false_iff_ne.2 (by omega)
          go_wp2
          go_ret
          exact ⟨rfl, HB5.out⟩
      · have HO : Hid (R = OUT) := Lib.hid (by have := HOUT.out; rw [hx1] at this; rwa [if_neg hT] at this)
        have hfw := BufSt.fin HB.out (by omega)
        rw [show strOfNums R = strOfNums OUT by rw [HO.out]] at hfw
        have hRp : (R.length : Int) ≤ s.size := by omega
        clear hx1 hb hnl hl0
        have HT := Lib.hid hT
        clear hT
        rcases hfw with ⟨g, cap, cb, hle, hex⟩ | ⟨hL0, g, cap, cb, hle, hcv⟩
        · cases tr with
          | false =>
            go_wp2
            go_ret
            exact ⟨by first | rfl | (rw [hex]; rfl), HBL.out⟩
          | true =>
            have hnR : ¬ (1 < (R.length : Int)) := fun h => HT.out ⟨rfl, by omega⟩
            go_wp2
            go_ret
            exact ⟨by first | rfl | (rw [hex]; rfl), HBL.out⟩
        · have hLn : ((s.size : Int) == 0) = false := beq_eq_false_iff_ne.2 (by omega)
          cases tr with
          | false =>
            go_wp2
            go_ret
            exact ⟨rfl, HBL.out⟩
          | true =>
            have hnR : ¬ (1 < (R.length : Int)) := fun h => HT.out ⟨rfl, by omega⟩
            go_wp2
            go_ret
            exact ⟨rfl, HBL.out⟩
end Go.Proofs.Ytkbmababljcabaa.Given
