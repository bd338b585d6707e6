/- impl.Boundary: the boundary of a content type that has one, for content types of the forms that the law asks. -/
import Derived.Test.YtjnnadpecendpaaGBoundT
import Derived.Test.YtjnnadpecendpaaGBytesIdx
import Derived.Test.YtjnnadpecendpaaGPrefix
set_option linter.unusedVariables false
set_option linter.unusedSimpArgs false
namespace Go.Proofs.Ytjnnadpecendpaa.Given
open Go.RowKit Go.Proofs.YtjnnadpecendpaaW.PrintWords Go.Proofs.YtjnnadpecendpaaW.PrintLast Go.Proofs.YtjnnadpecendpaaW.PrintMore Go.Proofs.Ytjnnadpecendpaa.Base Go.Proofs.Ytjnnadpecendpaa.Gv Go.Proofs.Ytjnnadpecendpaa.QA

theorem preB_range : ∀ x ∈ preB, 0 ≤ x ∧ x ≤ 255 := by decide
theorem preC_range : ∀ x ∈ preC, 0 ≤ x ∧ x ≤ 255 := by decide
def isPre (b a : List Int) : Bool := decide (b.length ≤ a.length ∧ a.take b.length = b)
set_option maxHeartbeats 1000000 in
set_option maxRecDepth 100000 in
/-- No form: no boundary. -/
theorem formB_none (w : World) (p c : Nat) (A : Option Addr) (v15 : Value) (xs : List Int) (hx : ∀ x ∈ xs, 0 ≤ x ∧ x ≤ 255) (hH : HRow w p (.slice A xs.length c) v15) (hC : Kd.C (Kd.int .u8) w A xs.length xs) (hc : xs.length ≤ c) (hpre : isPre preB xs = false) :
    Calls Try.prog 35 #[.pointer (some ⟨p, 0, none⟩)] w fun e w' => e = .returned (.slice none 0 0) ∧ Below w.heap.size w w' := by
  have HCT := Lib.hid (ctype_calls w p _ _ hH)
  have HC := Lib.hid hC
  have HP := Lib.hid (fun (W : World) (A1 : Option Addr) (k1 : Nat) (hr : Kd.C (Kd.int .u8) W A xs.length xs) (h1 : Kd.C (Kd.int .u8) W A1 preB.length preB) (q : preB.length ≤ k1) => hasPrefix_calls W A A1 c k1 xs preB hx preB_range hr hc h1 q)
  rw [show decide (preB.length ≤ xs.length ∧ xs.take preB.length = preB) = false from hpre] at HP
  clear hH hC hpre
  go_enter Try.func35, Try.ntmps35
  go_wp2_with (first
    | (go_at_call 37; refine HCT.out.mono ?_; rintro e w1 ⟨rfl, rfl⟩)
    | (go_at_call 72; refine (hertzstr_MIMEFormData.calls preB _ rfl).mono ?_; rintro e w2 ⟨v2, rfl, ho2, hb2⟩; obtain ⟨A2, k2, rfl⟩ := MR.R_slice ho2; have R2 := Lib.hid (MR.R_reads' ho2).2; have C2 := Lib.hid (Kd.C_below HC.out hb2); have B2 := Lib.hid hb2; clear ho2 hb2)
    | (go_at_call 71; refine (HP.out _ A2 k2 C2.out R2.out.2 R2.out.1).mono ?_; rintro e w3 ⟨rfl, ⟨nd, rfl⟩⟩))
  go_ret
  exact ⟨rfl, pw_below_drewN B2.out nd⟩
theorem idx_cases (r : List Int) (c : Int) : idx r c = -1 ∨ (0 ≤ idx r c ∧ idx r c < r.length) := by have := idx_range r c; omega
/-- What a boundary's text is: up to a semicolon. -/
def boundOf (r : List Int) : List Int := if idx r 59 = -1 then r else r.take (idx r 59).toNat
set_option maxHeartbeats 2000000 in
set_option maxRecDepth 100000 in
theorem formB_some (w : World) (p c : Nat) (A : Option Addr) (v15 : Value) (L r : List Int) (r0 : Int) (hx : ∀ x ∈ L, 0 ≤ x ∧ x ≤ 255) (hL : L = preB ++ 59 :: 32 :: (preC ++ 61 :: r)) (hr0 : ∃ t, r = r0 :: t) (hq : r0 ≠ 34) (hi1 : idx r 59 ≠ 0) (hlen : L.length ≤ 140737488355328) (hH : HRow w p (.slice A L.length c) v15) (hC : Kd.C (Kd.int .u8) w A L.length L) (hc : L.length ≤ c) :
    Calls Try.prog 35 #[.pointer (some ⟨p, 0, none⟩)] w fun e w' => ∃ A' n' c', e = .returned (.slice A' n' c') ∧ ReadsInt w' .u8 A' n' (boundOf r) ∧ Below w.heap.size w w' := by
  have hinfo : (Try.prog.info? 5).map (fun i => (i.zero, i.size, i.bytes)) = some (some (.int .u8 0), 1, 1) := by kernel_rfl
  obtain ⟨i0, hi, _, hsz, _⟩ := info_parts hinfo
  obtain ⟨L1, e1⟩ : ∃ L1 : List Int, 59 :: 32 :: (preC ++ 61 :: r) = L1 := ⟨_, rfl⟩
  obtain ⟨L2, e2⟩ : ∃ L2 : List Int, preC ++ 61 :: r = L2 := ⟨_, rfl⟩
  obtain ⟨L3, e3⟩ : ∃ L3 : List Int, 61 :: r = L3 := ⟨_, rfl⟩
  obtain ⟨L4, e4⟩ : ∃ L4 : List Int, r = L4 := ⟨_, rfl⟩
  have n4 : 1 ≤ L4.length := by obtain ⟨t, ht⟩ := hr0; rw [← e4, ht]; simp
  have n3 : L3.length = L4.length + 1 := by rw [← e3, e4]; rfl
  have n2 : L2.length = L4.length + 9 := by rw [← e2, e4, List.length_append]; show 8 + (L4.length + 1) = _; omega
  have n1 : L1.length = L4.length + 11 := by rw [← e1, e2, List.length_cons, List.length_cons, n2]
  have n0 : L.length = L4.length + 30 := by rw [hL, e1, List.length_append, n1]; show 19 + _ = _; omega
  have lB : preB.length = 19 := rfl
  have lC : preC.length = 8 := rfl
  have d1 : L.drop preB.length = L1 := by rw [hL, e1, List.drop_left]
  have d2 : L1.drop 2 = L2 := by rw [← e1, e2]; rfl
  have d3 : L2.drop preC.length = L3 := by rw [← e2, List.drop_left, e3]
  have d4 : L3.drop 1 = L4 := by rw [← e3, e4]; rfl
  obtain ⟨A1, hcut1, hR1⟩ := print_cut_of (P := Try.prog) (Value.int .u8) 0 56 5 .i64 Try.underlying56 hi hsz A L.length c preB.length (by omega)
  replace hR1 := hR1 w L hc (Kd.reads_of_C hC)
  rw [show L.length - preB.length = L1.length from by omega] at hcut1 hR1
  rw [show L.drop preB.length = L1 from d1] at hR1
  obtain ⟨c1, hc1⟩ : ∃ x, c - preB.length = x := ⟨_, rfl⟩
  rw [hc1] at hcut1
  have hk1 : L1.length ≤ c1 := by omega
  obtain ⟨A2, hcut2, hR2⟩ := print_cut_of (P := Try.prog) (Value.int .u8) 0 56 5 .i64 Try.underlying56 hi hsz A1 L1.length c1 2 (by omega)
  replace hR2 := hR2 w L1 hk1 hR1
  rw [show L1.length - 2 = L2.length from by omega] at hcut2 hR2
  rw [show L1.drop 2 = L2 from d2] at hR2
  obtain ⟨c2, hc2⟩ : ∃ x, c1 - 2 = x := ⟨_, rfl⟩
  rw [hc2] at hcut2
  have hk2 : L2.length ≤ c2 := by omega
  obtain ⟨A3, hcut3, hR3⟩ := print_cut_of (P := Try.prog) (Value.int .u8) 0 56 5 .i64 Try.underlying56 hi hsz A2 L2.length c2 preC.length (by omega)
  replace hR3 := hR3 w L2 hk2 hR2
  rw [show L2.length - preC.length = L3.length from by omega] at hcut3 hR3
  rw [show L2.drop preC.length = L3 from d3] at hR3
  obtain ⟨c3, hc3⟩ : ∃ x, c2 - preC.length = x := ⟨_, rfl⟩
  rw [hc3] at hcut3
  have hk3 : L3.length ≤ c3 := by omega
  obtain ⟨A4, hcut4, hR4⟩ := print_cut_of (P := Try.prog) (Value.int .u8) 0 56 5 .i64 Try.underlying56 hi hsz A3 L3.length c3 1 (by omega)
  replace hR4 := hR4 w L3 hk3 hR3
  rw [show L3.length - 1 = L4.length from by omega] at hcut4 hR4
  rw [show L3.drop 1 = L4 from d4] at hR4
  obtain ⟨c4, hc4⟩ : ∃ x, c3 - 1 = x := ⟨_, rfl⟩
  rw [hc4] at hcut4
  have hk4 : L4.length ≤ c4 := by omega
  obtain ⟨a1, E1⟩ : ∃ a, A1 = some a := by obtain ⟨ad, E, _⟩ := ReadsOf.at_ hR1 0 (by omega) (by omega); exact ⟨ad, E⟩
  obtain ⟨a3, E3⟩ : ∃ a, A3 = some a := by obtain ⟨ad, E, _⟩ := ReadsOf.at_ hR3 0 (by omega) (by omega); exact ⟨ad, E⟩
  obtain ⟨a4, E4⟩ : ∃ a, A4 = some a := by obtain ⟨ad, E, _⟩ := ReadsOf.at_ hR4 0 (by omega) (by omega); exact ⟨ad, E⟩
  subst E1 E3 E4
  have z10 : w.cell? a1 = some (.int .u8 59) := by
    obtain ⟨ad, E, z⟩ := ReadsOf.at_ hR1 0 (by omega) (by omega)
    injection E with E
    subst E
    rw [show rdOf (0 : Int) L1 0 = 59 from by rw [← e1]; rfl] at z
    rw [show (0 : Int).toNat = 0 from rfl, Addr.add_zero'] at z
    exact z
  have z11 : w.cell? (a1.add 1) = some (.int .u8 32) := by
    obtain ⟨ad, E, z⟩ := ReadsOf.at_ hR1 1 (by omega) (by omega)
    injection E with E
    subst E
    rw [show rdOf (0 : Int) L1 1 = 32 from by rw [← e1]; rfl] at z
    exact z
  have z12 : w.cell? (a1.add 2) = some (.int .u8 98) := by
    obtain ⟨ad, E, z⟩ := ReadsOf.at_ hR1 2 (by omega) (by omega)
    injection E with E
    subst E
    rw [show rdOf (0 : Int) L1 2 = 98 from by rw [← e1]; rfl] at z
    exact z
  have z30 : w.cell? a3 = some (.int .u8 61) := by
    obtain ⟨ad, E, z⟩ := ReadsOf.at_ hR3 0 (by omega) (by omega)
    injection E with E
    subst E
    rw [show rdOf (0 : Int) L3 0 = 61 from by rw [← e3]; rfl] at z
    rw [show (0 : Int).toNat = 0 from rfl, Addr.add_zero'] at z
    exact z
  have z40 : w.cell? a4 = some (.int .u8 r0) := by
    obtain ⟨ad, E, z⟩ := ReadsOf.at_ hR4 0 (by omega) (by omega)
    injection E with E
    subst E
    rw [show rdOf (0 : Int) L4 0 = r0 from by rw [← e4]; obtain ⟨t, ht⟩ := hr0; rw [ht]; rfl] at z
    rw [show (0 : Int).toNat = 0 from rfl, Addr.add_zero'] at z
    exact z
  replace hcut2 : ∀ W : World, (Instr.slice 56 (.slice (some a1) L1.length c1) (some (.int .i64 2)) none none).run Try.prog W = .ok (.slice A2 L2.length c2) W := hcut2
  replace hcut4 : ∀ W : World, (Instr.slice 56 (.slice (some a3) L3.length c3) (some (.int .i64 1)) none none).run Try.prog W = .ok (.slice (some a4) L4.length c4) W := hcut4
  have HF := Lib.hid (fun (W : World) (hb : Below w.heap.size w W) => (⟨(hb.cell (World.block_lt_of_cell? w _ z10)).trans z10, (hb.cell (World.block_lt_of_cell? w _ z11)).trans z11, (hb.cell (World.block_lt_of_cell? w _ z12)).trans z12, (hb.cell (World.block_lt_of_cell? w _ z30)).trans z30, (hb.cell (World.block_lt_of_cell? w _ z40)).trans z40⟩ : W.cell? a1 = some (.int .u8 59) ∧ W.cell? (a1.add 1) = some (.int .u8 32) ∧ W.cell? (a1.add 2) = some (.int .u8 98) ∧ W.cell? a3 = some (.int .u8 61) ∧ W.cell? a4 = some (.int .u8 r0)))
  have hx1 : ∀ x ∈ L1, 0 ≤ x ∧ x ≤ 255 := fun x h => hx x (List.mem_of_mem_drop (d1.symm ▸ h))
  have hx2 : ∀ x ∈ L2, 0 ≤ x ∧ x ≤ 255 := fun x h => hx1 x (List.mem_of_mem_drop (d2.symm ▸ h))
  have hx3 : ∀ x ∈ L3, 0 ≤ x ∧ x ≤ 255 := fun x h => hx2 x (List.mem_of_mem_drop (d3.symm ▸ h))
  have hx4 : ∀ x ∈ L4, 0 ≤ x ∧ x ≤ 255 := fun x h => hx3 x (List.mem_of_mem_drop (d4.symm ▸ h))
  have p1 : decide (preB.length ≤ L.length ∧ L.take preB.length = preB) = true := decide_eq_true ⟨by omega, by rw [hL, List.take_left]⟩
  have p2 : decide (preC.length ≤ L2.length ∧ L2.take preC.length = preC) = true := decide_eq_true ⟨by omega, by rw [← e2, List.take_left]⟩
  have HP1 := Lib.hid (fun (W : World) (q : Option Addr) (k1 : Nat) (hr : Kd.C (Kd.int .u8) W A L.length L) (h1 : Kd.C (Kd.int .u8) W q preB.length preB) (hk : preB.length ≤ k1) => hasPrefix_calls W A q c k1 L preB hx preB_range hr hc h1 hk)
  rw [p1] at HP1
  have C2 : Kd.C (Kd.int .u8) w A2 L2.length L2 := Kd.C_of_reads (h1 := fun _ => rfl) hR2
  have HP2 := Lib.hid (fun (W : World) (q : Option Addr) (k1 : Nat) (hr : Kd.C (Kd.int .u8) W A2 L2.length L2) (h1 : Kd.C (Kd.int .u8) W q preC.length preC) (hk : preC.length ≤ k1) => hasPrefix_calls W A2 q c2 k1 L2 preC hx2 preC_range hr hk2 h1 hk)
  rw [p2] at HP2
  have HCT := Lib.hid (ctype_calls w p _ _ hH)
  have HC := Lib.hid hC
  have HC2 := Lib.hid C2
  have HR4 := Lib.hid hR4
  have HIX := Lib.hid (fun (W : World) (hb : Below w.heap.size w W) => bytes_IndexByte_calls W (some a4) c4 L4 59 hx4 (by decide) (by decide) (Kd.reads_of_C (Kd.C_below (Kd.C_of_reads (h1 := fun _ => rfl) hR4 : Kd.C (Kd.int .u8) w (some a4) L4.length L4) hb)))
  have HRD := Lib.hid (fun (W : World) (hb : Below w.heap.size w W) => (Kd.reads_of_C (Kd.C_below (Kd.C_of_reads (h1 := fun _ => rfl) hR4 : Kd.C (Kd.int .u8) w (some a4) L4.length L4) hb) : ReadsOf (Value.int .u8) 0 W (some a4) L4.length L4))
  obtain ⟨i, hi59⟩ : ∃ i, idx L4 59 = i := ⟨_, rfl⟩
  rw [hi59] at HIX
  have hidx := idx_range L4 59
  rw [hi59] at hidx
  have hi1' : i ≠ 0 := by rw [← hi59, ← e4]; exact hi1
  obtain ⟨RES, hRES⟩ : ∃ X, boundOf r = X := ⟨_, rfl⟩
  rw [hRES]
  have hRES2 : Hid (RES = if i = -1 then L4 else L4.take i.toNat) := Lib.hid (by rw [← hRES]; unfold boundOf; rw [e4, hi59])
  have q1 : ((L1.length : Int) == 0) = false := beq_eq_false_iff_ne.2 (by omega)
  have q2 : ((L3.length : Int) == 0) = false := beq_eq_false_iff_ne.2 (by omega)
  have q3 : (r0 == 34) = false := beq_eq_false_iff_ne.2 hq
  have g0 : (0 : Int) < (L1.length : Int) := by omega
  have g1 : (1 : Int) < (L1.length : Int) := by omega
  have g2 : (2 : Int) < (L1.length : Int) := by omega
  have g3 : (0 : Int) < (L3.length : Int) := by omega
  have g4 : 1 ≤ L4.length := n4
  have kb : L4.length ≤ c4 := hk4
  have hcut5 := fun (m : Nat) (hm : m ≤ L4.length) => cut_to (P := Try.prog) 56 5 .i64 Try.underlying56 hi (some a4) L4.length c4 (m : Int) (by omega) (by omega) hk4
  have HCUT5 := Lib.hid hcut5
  have HL4 := Lib.hid hlen
  have HN0 := Lib.hid n0
  clear hx hL hr0 hq hi1 hlen hH hC hc hinfo hi hsz e1 e2 e3 e4 n3 n2 n1 n0 d1 d2 d3 d4 hR1 hR2 hR3 hR4 hc1 hc2 hc3 hc4 hk1 hk2 hk3 hk4 z10 z11 z12 z30 z40 hx1 hx2 hx3 hx4 p1 p2 C2 hRES hcut5 lB lC hi59 n4
  go_enter Try.func35, Try.ntmps35
  go_upto_region 4 with (first
    | (go_at_call 37; refine HCT.out.mono ?_; rintro e w1 ⟨rfl, rfl⟩)
    | (go_at_call 72; refine (hertzstr_MIMEFormData.calls preB _ rfl).mono ?_; rintro e w2 ⟨v2, rfl, ho2, hb2⟩; obtain ⟨B2, k2, rfl⟩ := MR.R_slice ho2; have RR2 := Lib.hid (MR.R_reads' ho2).2; have CC2 := Lib.hid (Kd.C_below HC.out hb2); have BB2 := Lib.hid hb2; clear ho2 hb2)
    | (go_at_call 71; refine (HP1.out _ B2 k2 CC2.out RR2.out.2 RR2.out.1).mono ?_; rintro e w3 ⟨rfl, ⟨nd, rfl⟩⟩))
  have BB3 := Lib.hid (pw_below_drewN BB2.out nd)
  clear RR2 CC2 HP1 HC
  go_upto_region 5 with (go_at_call 72; refine (hertzstr_MIMEFormData.calls preB _ rfl).mono ?_; rintro e w4 ⟨v4, rfl, ho4, hb4⟩; obtain ⟨B4, k4, rfl⟩ := MR.R_slice ho4; have BB4 := Lib.hid (below_step BB3.out hb4); clear ho4 hb4)
  obtain ⟨y0, y1, y2, y3, y4⟩ := HF.out _ BB4.out
  replace y1 : w4.cell? ⟨a1.block, a1.off + 1, none⟩ = some (.int .u8 32) := y1
  replace y2 : w4.cell? ⟨a1.block, a1.off + 2, none⟩ = some (.int .u8 98) := y2
  clear BB2 BB3
  go_wp2_with fail
  go_loopw [3, 4] (fun s3 s4 wr => s3 = .slice (some a1) L1.length c1 ∧ s4 = .int .i64 0 ∧ wr = w4) (fun _ _ _ => 0)
  case atStart => exact ⟨rfl, rfl, rfl⟩
  case round =>
    obtain ⟨rfl, rfl, hwr⟩ := hrel
    subst hwr
    go_upto_region 10 with fail
    go_loop [4] (fun s => ∃ j : Nat, s = .int .i64 j ∧ (j = 1 ∨ j = 2)) (fun s => 2 - (intOf s).toNat)
    case atStart => exact ⟨1, by go_num, Or.inl rfl⟩
    case round =>
      obtain ⟨j, rfl, hj⟩ := hrel
      rcases hj with rfl | rfl
      · go_wp2
        go_round
        case rel => exact ⟨2, by go_num, Or.inr rfl⟩
        case measure => simp [intOf]
      · go_upto_region 17 with (first
          | (go_at_call 73; refine (hertzstr_StrBoundary.calls preC _ rfl).mono ?_; rintro e w5 ⟨v5, rfl, ho5, hb5⟩; obtain ⟨B5, k5, rfl⟩ := MR.R_slice ho5; have RR5 := Lib.hid (MR.R_reads' ho5).2; have BB5 := Lib.hid (below_step BB4.out hb5); have CC5 := Lib.hid (Kd.C_below HC2.out BB5.out); clear ho5 hb5)
          | (go_at_call 71; refine (HP2.out _ B5 k5 CC5.out RR5.out.2 RR5.out.1).mono ?_; rintro e w6 ⟨rfl, ⟨nd2, rfl⟩⟩))
        have BB6 := Lib.hid (pw_below_drewN BB5.out nd2)
        clear RR5 CC5 BB5 HP2 HC2 y0 y1 y2 y3 y4
        go_upto_region 18 with (go_at_call 73; refine (hertzstr_StrBoundary.calls preC _ rfl).mono ?_; rintro e w7 ⟨v7, rfl, ho7, hb7⟩; obtain ⟨B7, k7, rfl⟩ := MR.R_slice ho7; have BB7 := Lib.hid (below_step BB6.out hb7); clear ho7 hb7)
        obtain ⟨_, _, _, y3, y4⟩ := HF.out _ BB7.out
        clear BB6
        go_upto_region 22 with (go_at_call 74; refine (HIX.out _ BB7.out).mono ?_; rintro e w9 ⟨rfl, rfl⟩)
        by_cases hneg : i = -1
        · have hres : Hid (RES = L4) := Lib.hid (by have := hRES2.out; rwa [if_pos hneg] at this)
          have HFIN := Lib.hid (HRD.out _ BB7.out)
          subst hneg
          by_cases hone : 1 < L4.length
          · have g5 : (1 : Int) < (L4.length : Int) := by omega
            go_wp2
            go_ret
            first | exact ⟨_, _, ⟨_, rfl⟩, by rw [hres.out]; exact HFIN.out, BB7.out⟩ | exact ⟨_, _, _, rfl, by rw [hres.out]; exact HFIN.out, BB7.out⟩
          · have g5 : decide ((1 : Int) < (L4.length : Int)) = false := decide_eq_false (by omega)
            go_wp2
            go_ret
            first | exact ⟨_, _, ⟨_, rfl⟩, by rw [hres.out]; exact HFIN.out, BB7.out⟩ | exact ⟨_, _, _, rfl, by rw [hres.out]; exact HFIN.out, BB7.out⟩
        · obtain ⟨m, rfl⟩ : ∃ m : Nat, i = m := ⟨i.toNat, by omega⟩
          have hm1 : m ≤ L4.length := by omega
          have hm0 : 1 ≤ m := by omega
          have hres : Hid (RES = L4.take m) := Lib.hid (by have := hRES2.out; rwa [if_neg hneg, Int.toNat_natCast] at this)
          have hcut6 := HCUT5.out m hm1
          rw [Int.toNat_natCast] at hcut6
          have HFIN := Lib.hid ((HRD.out _ BB7.out).take_ m hm1)
          have g6 : (0 : Int) ≤ (m : Int) := by omega
          have g7 : (m : Int) ≤ (L4.length : Int) := by omega
          have g8 : (0 : Int) < (m : Int) := by omega
          clear hneg
          by_cases hone : 1 < m
          · have g5 : (1 : Int) < (m : Int) := by omega
            go_wp2
            go_ret
            first | exact ⟨_, _, ⟨_, rfl⟩, by rw [hres.out]; exact HFIN.out, BB7.out⟩ | exact ⟨_, _, _, rfl, by rw [hres.out]; exact HFIN.out, BB7.out⟩
          · have g5 : decide ((1 : Int) < (m : Int)) = false := decide_eq_false (by omega)
            go_wp2
            go_ret
            first | exact ⟨_, _, ⟨_, rfl⟩, by rw [hres.out]; exact HFIN.out, BB7.out⟩ | exact ⟨_, _, _, rfl, by rw [hres.out]; exact HFIN.out, BB7.out⟩
end Go.Proofs.Ytjnnadpecendpaa.Given
