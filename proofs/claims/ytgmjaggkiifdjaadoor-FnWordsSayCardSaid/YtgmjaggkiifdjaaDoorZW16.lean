/- Texts of this claim, one behind the other (merged by wip/prune.py of this repo, without what the proof does not use): WordsW. -/
import Derived.Test.YtgmjaggkiifdjaaDoorZW5
import Derived.Test.YtgmjaggkiifdjaaDoorZW6
import Derived.Test.YtgmjaggkiifdjaaDoorZW7
import Derived.Test.YtgmjaggkiifdjaaDoorZW10
import Derived.Test.YtgmjaggkiifdjaaDoorZW11
import Derived.Test.YtgmjaggkiifdjaaDoorZW14
import Derived.Test.YtgmjaggkiifdjaaDoorZW15
set_option linter.unusedVariables false
set_option linter.unusedSimpArgs false
namespace Go.Proofs.YtgmjaggkiifdjaaDoor.Pure
open Go.RowKit Go.Proofs.YtgmjaggkiifdjaaDoorW.PrintWords Go.Proofs.YtgmjaggkiifdjaaDoorW.PrintLast Go.Proofs.YtgmjaggkiifdjaaDoorW.PrintMore Go.Proofs.YtgmjaggkiifdjaaDoor.Base Go.Proofs.YtgmjaggkiifdjaaDoor.Gv Go.Proofs.YtgmjaggkiifdjaaDoor.Given Go.Proofs.YtgmjaggkiifdjaaDoor.QA Go.Proofs.YtgmjaggkiifdjaaDoor.Hlp Go.Proofs.YtgmjaggkiifdjaaDoor.Cln
set_option maxHeartbeats 1000000 in
set_option maxRecDepth 100000 in
theorem words_big (a0 a1 : ByteArray) (n : Int) (w : World) (h : 2147483647 < a0.size ∨ 2147483647 < a1.size) : Calls Tryd.prog 6 #[.string a0, .string a1, .int .i64 n] w fun e w' => e = .returned (.bool true) ∧ Below w.heap.size w w' := by
  by_cases h0 : 2147483647 < a0.size
  · have b0 : decide (2147483647 < (a0.size : Int)) = true := decide_eq_true (by omega)
    have b1 : decide (2147483647 < a0.size) = true := decide_eq_true (by omega)
    clear h
    go_enter Tryd.func6, Tryd.ntmps6
    go_wp2
    go_ret
    exact ⟨rfl, Below.refl _ _⟩
  · have h1 := h.resolve_left h0
    have b0 : decide (2147483647 < (a0.size : Int)) = false := decide_eq_false (by omega)
    have b1 : decide (2147483647 < a0.size) = false := decide_eq_false (by omega)
    have b2 : decide (2147483647 < (a1.size : Int)) = true := decide_eq_true (by omega)
    have b3 : decide (2147483647 < a1.size) = true := decide_eq_true (by omega)
    clear h
    go_enter Tryd.func6, Tryd.ntmps6
    go_wp2
    go_ret
    exact ⟨rfl, Below.refl _ _⟩
theorem norm_const : impl_NormalKey.f (⟨#[120, 45, 97]⟩ : ByteArray) = some (⟨#[88, 45, 65]⟩ : ByteArray) := by
  unfold impl_NormalKey.f
  rw [if_pos (by decide)]
  decide +kernel
theorem msg_const : statMsg 200 = (⟨#[79, 75]⟩ : ByteArray) := by decide +kernel
set_option maxHeartbeats 1000000 in
set_option maxRecDepth 100000 in
theorem words_long (a0 a1 : ByteArray) (n : Int) (w : World) (h0 : ¬ 2147483647 < a0.size) (h1 : ¬ 2147483647 < a1.size) (hsh : areShort [a0, a1] = false) : Calls Tryd.prog 6 #[.string a0, .string a1, .int .i64 n] w fun e w' => e = .returned (.bool true) ∧ Below w.heap.size w w' := by
  have b0 : decide (2147483647 < (a0.size : Int)) = false := decide_eq_false (by omega)
  have b1 : decide (2147483647 < a0.size) = false := decide_eq_false (by omega)
  have b2 : decide (2147483647 < (a1.size : Int)) = false := decide_eq_false (by omega)
  have b3 : decide (2147483647 < a1.size) = false := decide_eq_false (by omega)
  obtain ⟨xa, hxa⟩ : ∃ g, (⟨#[88, 45, 65]⟩ : ByteArray) = g := ⟨_, rfl⟩
  have E1 := Lib.hid (fun W => impl_NormalKey.calls _ _ W norm_const)
  rw [hxa] at E1
  have ex : (xa.toList == ([88, 45, 65] : List UInt8)) = true := by rw [← hxa]; decide +kernel
  obtain ⟨ok, hok⟩ : ∃ g, (⟨#[79, 75]⟩ : ByteArray) = g := ⟨_, rfl⟩
  have G1 := Lib.hid (fun W => implMsg_calls 200 W)
  rw [msg_const, hok] at G1
  have ek : (ok.toList == ([79, 75] : List UInt8)) = true := by rw [← hok]; decide +kernel
  obtain ⟨ks, hks⟩ := (short_ends [a0, a1] (by simp)).rounds
  rw [hsh] at hks
  have SH := Lib.hid (fun W A (h : Kd.C Kd.string W A 2 [a0, a1]) => dB (laws_short.calls ks A 2 [a0, a1] _ W h (by simp) hks))
  clear hks hxa hok hsh h0 h1
  go_enter Tryd.func6, Tryd.ntmps6
  go_wp2_with (first
    | (go_at_call 37; refine (E1.out _).mono ?_; rintro e w1 ⟨rfl, hb⟩; have HB1 := Lib.hid hb; clear hb)
    | (go_at_call 9; refine (G1.out _).mono ?_; rintro e w2 ⟨rfl, hb⟩; have HB2 := Lib.hid (HB1.out.trans (bwk HB1.out.size hb)); clear hb)
    | (go_at_call 11; refine (SH.out _ _ (strs_lit w2 [a0, a1] (by simp) _ rfl)).mono ?_; rintro e w3 ⟨rfl, hb⟩; have HB3 := Lib.hid (HB2.out.trans (bwk HB2.out.size (((Below.refl w2.heap.size w2).alloc (Nat.le_refl _) _).trans (bwk (by simp) hb)))); clear hb))
  go_ret
  exact ⟨rfl, HB3.out⟩
set_option maxHeartbeats 4000000 in
set_option maxRecDepth 100000 in
theorem words_tt (a0 a1 : ByteArray) (n : Int) (w : World) (hT : TabsU w) (h0 : ¬ 2147483647 < a0.size) (h1 : ¬ 2147483647 < a1.size) (hs0 : a0.size ≤ 200) (hs1 : a1.size ≤ 200) (hsh : areShort [a0, a1] = true) (tls : Bool) (htls : (Int.tmod n 2 == 0) = tls) (k46 : Nat) (rp : ByteArray × Int) (h46 : spec_WithPort.f k46 a0 tls = some rp) (hp : rp.2 = 1 ∧ rp.1 = withPort a0 tls) (rs : ByteArray × Int) (h47 : spec_StatusMessage.f n = some rs) (hq : rs.2 = 1 ∧ rs.1 = statMsg n) :
    Calls Tryd.prog 6 #[.string a0, .string a1, .int .i64 n] w fun e w' => e = .returned (.bool true) ∧ Below w.heap.size w w' := by
  have b0 : decide (2147483647 < (a0.size : Int)) = false := decide_eq_false (by omega)
  have b1 : decide (2147483647 < a0.size) = false := decide_eq_false (by omega)
  have b2 : decide (2147483647 < (a1.size : Int)) = false := decide_eq_false (by omega)
  have b3 : decide (2147483647 < a1.size) = false := decide_eq_false (by omega)
  obtain ⟨xa, hxa⟩ : ∃ g, (⟨#[88, 45, 65]⟩ : ByteArray) = g := ⟨_, rfl⟩
  have E1 := Lib.hid (fun W => impl_NormalKey.calls _ _ W norm_const)
  rw [hxa] at E1
  have ex : (xa.toList == ([88, 45, 65] : List UInt8)) = true := by rw [← hxa]; decide +kernel
  obtain ⟨ok, hok⟩ : ∃ g, (⟨#[79, 75]⟩ : ByteArray) = g := ⟨_, rfl⟩
  have G1 := Lib.hid (fun W => implMsg_calls 200 W)
  rw [msg_const, hok] at G1
  have ek : (ok.toList == ([79, 75] : List UInt8)) = true := by rw [← hok]; decide +kernel
  obtain ⟨ks, hks⟩ := (short_ends [a0, a1] (by simp)).rounds
  rw [hsh] at hks
  have SH := Lib.hid (fun W A (h : Kd.C Kd.string W A 2 [a0, a1]) => dB (laws_short.calls ks A 2 [a0, a1] _ W h (by simp) hks))
  clear hks hxa hok hsh h0 h1
  have c37 := fun W => normalKey_calls a0 W (by omega)
  have c38 := fun W => spec_NormalKey.calls a0 _ W (show spec_NormalKey.f a0 = some (strOfNums (nk (ns a0))) by unfold spec_NormalKey.f; rw [if_pos (by omega)])
  obtain ⟨NK, hNK⟩ : ∃ x, strOfNums (nk (ns a0)) = x := ⟨_, rfl⟩
  rw [hNK] at c37 c38
  have C37 := Lib.hid c37
  have C38 := Lib.hid c38
  obtain ⟨sk, hsk⟩ : ∃ b, decide ((ns a0).map o32 = (ns a1).map o32) = b := ⟨_, rfl⟩
  obtain ⟨k39, h39⟩ := (implKey_ends a0 a1 (by omega) (by omega)).rounds
  obtain ⟨k40, h40⟩ := (specKey_ends a0 a1 (by omega)).rounds
  rw [hsk] at h39 h40
  have C39 := Lib.hid (fun W => impl_SameKey.calls k39 a0 a1 sk W h39)
  have C40 := Lib.hid (fun W => dB (spec_SameKey.calls k40 a0 a1 sk W h40))
  obtain ⟨TY, hTY⟩ : ∃ x, a0.extract 0 (typeLen a0) = x := ⟨_, rfl⟩
  have h41 : impl_TypeAhead.f a0 = some (a0.extract 0 (typeLen a0)) := by unfold impl_TypeAhead.f hertzutils_FilterContentType.f; rfl
  obtain ⟨k42, h42⟩ := (specType_ends a0 (by omega)).rounds
  rw [hTY] at h41 h42
  have C41 := Lib.hid (fun W => impl_TypeAhead.calls a0 TY W h41)
  have C42 := Lib.hid (fun W => dB (spec_TypeAhead.calls k42 a0 TY W h42))
  obtain ⟨tt, htt⟩ : ∃ b, isTrue a0 = b := ⟨_, rfl⟩
  have c10 := fun W (h : TabsU W) => trueText_calls a0 W (by omega) h
  obtain ⟨k43, h43⟩ := (specTrue_ends a0 (by omega)).rounds
  rw [htt] at c10 h43
  have C10 := Lib.hid c10
  have C43 := Lib.hid (fun W => dB (spec_TrueText.calls k43 a0 tt W h43))
  obtain ⟨CP, hCP⟩ : ∃ x, strOfNums (cleanG (ns a0)) = x := ⟨_, rfl⟩
  have c44 := fun W => implClean_calls a0 W (by omega)
  obtain ⟨k45, h45⟩ := (specClean_ends a0 (by omega)).rounds
  rw [hCP] at c44 h45
  have C44 := Lib.hid c44
  have C45 := Lib.hid (fun W => spec_CleanPath.calls k45 a0 CP W h45)
  have C46 := Lib.hid (fun W => dB (spec_WithPort.calls k46 a0 tls rp.1 rp.2 W h46))
  have c48 := fun W => impl_WithPort.calls a0 tls _ W (show impl_WithPort.f a0 tls = some (withPort a0 tls) by unfold impl_WithPort.f hertzutils_AddMissingPort.f; rw [if_pos (by omega)]; rfl)
  have C48 := Lib.hid (fun W => dB (c48 W))
  have C47 := Lib.hid (fun W => dB (spec_StatusMessage.calls n rs.1 rs.2 W h47))
  have C9 := Lib.hid (fun W => implMsg_calls n W)
  have HT := Lib.hid hT
  clear hT c37 c38 hNK hsk h39 h40 hTY h41 h42 htt c10 h43 hCP c44 h45 h46 c48 h47 hs0 hs1
  rw [hp.1, hp.2] at C46
  obtain ⟨PT, hPT⟩ : ∃ x, withPort a0 tls = x := ⟨_, rfl⟩
  rw [hPT] at C46 C48
  clear hPT
  rw [hq.1, hq.2] at C47
  obtain ⟨ST, hST⟩ : ∃ x, statMsg n = x := ⟨_, rfl⟩
  rw [hST] at C47 C9
  clear hST
  clear hp hq
  go_enter Tryd.func6, Tryd.ntmps6
  go_upto_region 5 with (first
    | (go_at_call 37; refine (E1.out _).mono ?_; rintro e w1 ⟨rfl, hb⟩; have HB1 := Lib.hid hb; clear hb)
    | (go_at_call 9; refine (G1.out _).mono ?_; rintro e w2 ⟨rfl, hb⟩; have HB2 := Lib.hid (HB1.out.trans (bwk HB1.out.size hb)); clear hb))
  go_upto_region 7 with (go_at_call 11; refine (SH.out _ _ (strs_lit w2 [a0, a1] (by simp) _ rfl)).mono ?_; rintro e w3 ⟨rfl, hb⟩; have HB3 := Lib.hid (HB2.out.trans (bwk HB2.out.size (((Below.refl w2.heap.size w2).alloc (Nat.le_refl _) _).trans (bwk (by simp) hb)))); clear hb)
  go_upto_region 9 with (first
    | (go_at_call 37; refine (C37.out _).mono ?_; rintro e w4 ⟨rfl, hb⟩; have HB4 := Lib.hid (HB3.out.trans (bwk HB3.out.size hb)); clear hb)
    | (go_at_call 38; refine (C38.out _).mono ?_; rintro e w5 ⟨rfl, hb⟩; have HB5 := Lib.hid (HB4.out.trans (bwk HB4.out.size hb)); clear hb)
    | (go_at_call 39; refine (C39.out _).mono ?_; rintro e w6 ⟨rfl, hb⟩; have HB6 := Lib.hid (HB5.out.trans (bwk HB5.out.size hb)); clear hb)
    | (go_at_call 40; refine (C40.out _).mono ?_; rintro e w7 ⟨rfl, hb⟩; have HB7 := Lib.hid (HB6.out.trans (bwk HB6.out.size hb)); clear hb)
    | (go_at_call 41; refine (C41.out _).mono ?_; rintro e w8 ⟨rfl, hb⟩; have HB8 := Lib.hid (HB7.out.trans (bwk HB7.out.size hb)); clear hb)
    | (go_at_call 42; refine (C42.out _).mono ?_; rintro e w9 ⟨rfl, hb⟩; have HB9 := Lib.hid (HB8.out.trans (bwk HB8.out.size hb)); clear hb)
    | (go_at_call 10; refine (C10.out _ (HT.out.below HB9.out)).mono ?_; rintro e w10 ⟨rfl, hb⟩; have HB10 := Lib.hid (HB9.out.trans (bwk HB9.out.size hb)); clear hb)
    | (go_at_call 43; refine (C43.out _).mono ?_; rintro e w11 ⟨rfl, hb⟩; have HB11 := Lib.hid (HB10.out.trans (bwk HB10.out.size hb)); clear hb))
  go_wp2_with (first
    | (go_at_call 44; refine (C44.out _).mono ?_; rintro e w12 ⟨rfl, hb⟩; have HB12 := Lib.hid (HB11.out.trans (bwk HB11.out.size hb)); clear hb)
    | (go_at_call 45; refine (C45.out _).mono ?_; rintro e w13 ⟨rfl, hb⟩; have HB13 := Lib.hid (HB12.out.trans (bwk HB12.out.size hb)); clear hb)
    | (go_at_call 46; refine (C46.out _).mono ?_; rintro e w14 ⟨rfl, hb⟩; have HB14 := Lib.hid (HB13.out.trans (bwk HB13.out.size hb)); clear hb)
    | (go_at_call 47; refine (C47.out _).mono ?_; rintro e w15 ⟨rfl, hb⟩; have HB15 := Lib.hid (HB14.out.trans (bwk HB14.out.size hb)); clear hb)
    | (go_at_call 48; refine (C48.out _).mono ?_; rintro e w16 ⟨rfl, hb⟩; have HB16 := Lib.hid (HB15.out.trans (bwk HB15.out.size hb)); clear hb)
    | (go_at_call 9; refine (C9.out _).mono ?_; rintro e w17 ⟨rfl, hb⟩; have HB17 := Lib.hid (HB16.out.trans (bwk HB16.out.size hb)); clear hb))
  go_ret
  exact ⟨by first | rfl | simp, HB17.out⟩
set_option maxHeartbeats 4000000 in
set_option maxRecDepth 100000 in
theorem words_tf (a0 a1 : ByteArray) (n : Int) (w : World) (hT : TabsU w) (h0 : ¬ 2147483647 < a0.size) (h1 : ¬ 2147483647 < a1.size) (hs0 : a0.size ≤ 200) (hs1 : a1.size ≤ 200) (hsh : areShort [a0, a1] = true) (tls : Bool) (htls : (Int.tmod n 2 == 0) = tls) (k46 : Nat) (rp : ByteArray × Int) (h46 : spec_WithPort.f k46 a0 tls = some rp) (hp : rp.2 = 1 ∧ rp.1 = withPort a0 tls) (rs : ByteArray × Int) (h47 : spec_StatusMessage.f n = some rs) (hq : rs.2 = 2) :
    Calls Tryd.prog 6 #[.string a0, .string a1, .int .i64 n] w fun e w' => e = .returned (.bool true) ∧ Below w.heap.size w w' := by
  have b0 : decide (2147483647 < (a0.size : Int)) = false := decide_eq_false (by omega)
  have b1 : decide (2147483647 < a0.size) = false := decide_eq_false (by omega)
  have b2 : decide (2147483647 < (a1.size : Int)) = false := decide_eq_false (by omega)
  have b3 : decide (2147483647 < a1.size) = false := decide_eq_false (by omega)
  obtain ⟨xa, hxa⟩ : ∃ g, (⟨#[88, 45, 65]⟩ : ByteArray) = g := ⟨_, rfl⟩
  have E1 := Lib.hid (fun W => impl_NormalKey.calls _ _ W norm_const)
  rw [hxa] at E1
  have ex : (xa.toList == ([88, 45, 65] : List UInt8)) = true := by rw [← hxa]; decide +kernel
  obtain ⟨ok, hok⟩ : ∃ g, (⟨#[79, 75]⟩ : ByteArray) = g := ⟨_, rfl⟩
  have G1 := Lib.hid (fun W => implMsg_calls 200 W)
  rw [msg_const, hok] at G1
  have ek : (ok.toList == ([79, 75] : List UInt8)) = true := by rw [← hok]; decide +kernel
  obtain ⟨ks, hks⟩ := (short_ends [a0, a1] (by simp)).rounds
  rw [hsh] at hks
  have SH := Lib.hid (fun W A (h : Kd.C Kd.string W A 2 [a0, a1]) => dB (laws_short.calls ks A 2 [a0, a1] _ W h (by simp) hks))
  clear hks hxa hok hsh h0 h1
  have c37 := fun W => normalKey_calls a0 W (by omega)
  have c38 := fun W => spec_NormalKey.calls a0 _ W (show spec_NormalKey.f a0 = some (strOfNums (nk (ns a0))) by unfold spec_NormalKey.f; rw [if_pos (by omega)])
  obtain ⟨NK, hNK⟩ : ∃ x, strOfNums (nk (ns a0)) = x := ⟨_, rfl⟩
  rw [hNK] at c37 c38
  have C37 := Lib.hid c37
  have C38 := Lib.hid c38
  obtain ⟨sk, hsk⟩ : ∃ b, decide ((ns a0).map o32 = (ns a1).map o32) = b := ⟨_, rfl⟩
  obtain ⟨k39, h39⟩ := (implKey_ends a0 a1 (by omega) (by omega)).rounds
  obtain ⟨k40, h40⟩ := (specKey_ends a0 a1 (by omega)).rounds
  rw [hsk] at h39 h40
  have C39 := Lib.hid (fun W => impl_SameKey.calls k39 a0 a1 sk W h39)
  have C40 := Lib.hid (fun W => dB (spec_SameKey.calls k40 a0 a1 sk W h40))
  obtain ⟨TY, hTY⟩ : ∃ x, a0.extract 0 (typeLen a0) = x := ⟨_, rfl⟩
  have h41 : impl_TypeAhead.f a0 = some (a0.extract 0 (typeLen a0)) := by unfold impl_TypeAhead.f hertzutils_FilterContentType.f; rfl
  obtain ⟨k42, h42⟩ := (specType_ends a0 (by omega)).rounds
  rw [hTY] at h41 h42
  have C41 := Lib.hid (fun W => impl_TypeAhead.calls a0 TY W h41)
  have C42 := Lib.hid (fun W => dB (spec_TypeAhead.calls k42 a0 TY W h42))
  obtain ⟨tt, htt⟩ : ∃ b, isTrue a0 = b := ⟨_, rfl⟩
  have c10 := fun W (h : TabsU W) => trueText_calls a0 W (by omega) h
  obtain ⟨k43, h43⟩ := (specTrue_ends a0 (by omega)).rounds
  rw [htt] at c10 h43
  have C10 := Lib.hid c10
  have C43 := Lib.hid (fun W => dB (spec_TrueText.calls k43 a0 tt W h43))
  obtain ⟨CP, hCP⟩ : ∃ x, strOfNums (cleanG (ns a0)) = x := ⟨_, rfl⟩
  have c44 := fun W => implClean_calls a0 W (by omega)
  obtain ⟨k45, h45⟩ := (specClean_ends a0 (by omega)).rounds
  rw [hCP] at c44 h45
  have C44 := Lib.hid c44
  have C45 := Lib.hid (fun W => spec_CleanPath.calls k45 a0 CP W h45)
  have C46 := Lib.hid (fun W => dB (spec_WithPort.calls k46 a0 tls rp.1 rp.2 W h46))
  have c48 := fun W => impl_WithPort.calls a0 tls _ W (show impl_WithPort.f a0 tls = some (withPort a0 tls) by unfold impl_WithPort.f hertzutils_AddMissingPort.f; rw [if_pos (by omega)]; rfl)
  have C48 := Lib.hid (fun W => dB (c48 W))
  have C47 := Lib.hid (fun W => dB (spec_StatusMessage.calls n rs.1 rs.2 W h47))
  have C9 := Lib.hid (fun W => implMsg_calls n W)
  have HT := Lib.hid hT
  clear hT c37 c38 hNK hsk h39 h40 hTY h41 h42 htt c10 h43 hCP c44 h45 h46 c48 h47 hs0 hs1
  rw [hp.1, hp.2] at C46
  obtain ⟨PT, hPT⟩ : ∃ x, withPort a0 tls = x := ⟨_, rfl⟩
  rw [hPT] at C46 C48
  clear hPT
  rw [hq] at C47
  clear hp hq
  go_enter Tryd.func6, Tryd.ntmps6
  go_upto_region 5 with (first
    | (go_at_call 37; refine (E1.out _).mono ?_; rintro e w1 ⟨rfl, hb⟩; have HB1 := Lib.hid hb; clear hb)
    | (go_at_call 9; refine (G1.out _).mono ?_; rintro e w2 ⟨rfl, hb⟩; have HB2 := Lib.hid (HB1.out.trans (bwk HB1.out.size hb)); clear hb))
  go_upto_region 7 with (go_at_call 11; refine (SH.out _ _ (strs_lit w2 [a0, a1] (by simp) _ rfl)).mono ?_; rintro e w3 ⟨rfl, hb⟩; have HB3 := Lib.hid (HB2.out.trans (bwk HB2.out.size (((Below.refl w2.heap.size w2).alloc (Nat.le_refl _) _).trans (bwk (by simp) hb)))); clear hb)
  go_upto_region 9 with (first
    | (go_at_call 37; refine (C37.out _).mono ?_; rintro e w4 ⟨rfl, hb⟩; have HB4 := Lib.hid (HB3.out.trans (bwk HB3.out.size hb)); clear hb)
    | (go_at_call 38; refine (C38.out _).mono ?_; rintro e w5 ⟨rfl, hb⟩; have HB5 := Lib.hid (HB4.out.trans (bwk HB4.out.size hb)); clear hb)
    | (go_at_call 39; refine (C39.out _).mono ?_; rintro e w6 ⟨rfl, hb⟩; have HB6 := Lib.hid (HB5.out.trans (bwk HB5.out.size hb)); clear hb)
    | (go_at_call 40; refine (C40.out _).mono ?_; rintro e w7 ⟨rfl, hb⟩; have HB7 := Lib.hid (HB6.out.trans (bwk HB6.out.size hb)); clear hb)
    | (go_at_call 41; refine (C41.out _).mono ?_; rintro e w8 ⟨rfl, hb⟩; have HB8 := Lib.hid (HB7.out.trans (bwk HB7.out.size hb)); clear hb)
    | (go_at_call 42; refine (C42.out _).mono ?_; rintro e w9 ⟨rfl, hb⟩; have HB9 := Lib.hid (HB8.out.trans (bwk HB8.out.size hb)); clear hb)
    | (go_at_call 10; refine (C10.out _ (HT.out.below HB9.out)).mono ?_; rintro e w10 ⟨rfl, hb⟩; have HB10 := Lib.hid (HB9.out.trans (bwk HB9.out.size hb)); clear hb)
    | (go_at_call 43; refine (C43.out _).mono ?_; rintro e w11 ⟨rfl, hb⟩; have HB11 := Lib.hid (HB10.out.trans (bwk HB10.out.size hb)); clear hb))
  go_wp2_with (first
    | (go_at_call 44; refine (C44.out _).mono ?_; rintro e w12 ⟨rfl, hb⟩; have HB12 := Lib.hid (HB11.out.trans (bwk HB11.out.size hb)); clear hb)
    | (go_at_call 45; refine (C45.out _).mono ?_; rintro e w13 ⟨rfl, hb⟩; have HB13 := Lib.hid (HB12.out.trans (bwk HB12.out.size hb)); clear hb)
    | (go_at_call 46; refine (C46.out _).mono ?_; rintro e w14 ⟨rfl, hb⟩; have HB14 := Lib.hid (HB13.out.trans (bwk HB13.out.size hb)); clear hb)
    | (go_at_call 47; refine (C47.out _).mono ?_; rintro e w15 ⟨rfl, hb⟩; have HB15 := Lib.hid (HB14.out.trans (bwk HB14.out.size hb)); clear hb)
    | (go_at_call 48; refine (C48.out _).mono ?_; rintro e w16 ⟨rfl, hb⟩; have HB16 := Lib.hid (HB15.out.trans (bwk HB15.out.size hb)); clear hb))
  go_ret
  exact ⟨by first | rfl | simp, HB16.out⟩
set_option maxHeartbeats 4000000 in
set_option maxRecDepth 100000 in
theorem words_ft (a0 a1 : ByteArray) (n : Int) (w : World) (hT : TabsU w) (h0 : ¬ 2147483647 < a0.size) (h1 : ¬ 2147483647 < a1.size) (hs0 : a0.size ≤ 200) (hs1 : a1.size ≤ 200) (hsh : areShort [a0, a1] = true) (tls : Bool) (htls : (Int.tmod n 2 == 0) = tls) (k46 : Nat) (rp : ByteArray × Int) (h46 : spec_WithPort.f k46 a0 tls = some rp) (hp : rp.2 = 2) (rs : ByteArray × Int) (h47 : spec_StatusMessage.f n = some rs) (hq : rs.2 = 1 ∧ rs.1 = statMsg n) :
    Calls Tryd.prog 6 #[.string a0, .string a1, .int .i64 n] w fun e w' => e = .returned (.bool true) ∧ Below w.heap.size w w' := by
  have b0 : decide (2147483647 < (a0.size : Int)) = false := decide_eq_false (by omega)
  have b1 : decide (2147483647 < a0.size) = false := decide_eq_false (by omega)
  have b2 : decide (2147483647 < (a1.size : Int)) = false := decide_eq_false (by omega)
  have b3 : decide (2147483647 < a1.size) = false := decide_eq_false (by omega)
  obtain ⟨xa, hxa⟩ : ∃ g, (⟨#[88, 45, 65]⟩ : ByteArray) = g := ⟨_, rfl⟩
  have E1 := Lib.hid (fun W => impl_NormalKey.calls _ _ W norm_const)
  rw [hxa] at E1
  have ex : (xa.toList == ([88, 45, 65] : List UInt8)) = true := by rw [← hxa]; decide +kernel
  obtain ⟨ok, hok⟩ : ∃ g, (⟨#[79, 75]⟩ : ByteArray) = g := ⟨_, rfl⟩
  have G1 := Lib.hid (fun W => implMsg_calls 200 W)
  rw [msg_const, hok] at G1
  have ek : (ok.toList == ([79, 75] : List UInt8)) = true := by rw [← hok]; decide +kernel
  obtain ⟨ks, hks⟩ := (short_ends [a0, a1] (by simp)).rounds
  rw [hsh] at hks
  have SH := Lib.hid (fun W A (h : Kd.C Kd.string W A 2 [a0, a1]) => dB (laws_short.calls ks A 2 [a0, a1] _ W h (by simp) hks))
  clear hks hxa hok hsh h0 h1
  have c37 := fun W => normalKey_calls a0 W (by omega)
  have c38 := fun W => spec_NormalKey.calls a0 _ W (show spec_NormalKey.f a0 = some (strOfNums (nk (ns a0))) by unfold spec_NormalKey.f; rw [if_pos (by omega)])
  obtain ⟨NK, hNK⟩ : ∃ x, strOfNums (nk (ns a0)) = x := ⟨_, rfl⟩
  rw [hNK] at c37 c38
  have C37 := Lib.hid c37
  have C38 := Lib.hid c38
  obtain ⟨sk, hsk⟩ : ∃ b, decide ((ns a0).map o32 = (ns a1).map o32) = b := ⟨_, rfl⟩
  obtain ⟨k39, h39⟩ := (implKey_ends a0 a1 (by omega) (by omega)).rounds
  obtain ⟨k40, h40⟩ := (specKey_ends a0 a1 (by omega)).rounds
  rw [hsk] at h39 h40
  have C39 := Lib.hid (fun W => impl_SameKey.calls k39 a0 a1 sk W h39)
  have C40 := Lib.hid (fun W => dB (spec_SameKey.calls k40 a0 a1 sk W h40))
  obtain ⟨TY, hTY⟩ : ∃ x, a0.extract 0 (typeLen a0) = x := ⟨_, rfl⟩
  have h41 : impl_TypeAhead.f a0 = some (a0.extract 0 (typeLen a0)) := by unfold impl_TypeAhead.f hertzutils_FilterContentType.f; rfl
  obtain ⟨k42, h42⟩ := (specType_ends a0 (by omega)).rounds
  rw [hTY] at h41 h42
  have C41 := Lib.hid (fun W => impl_TypeAhead.calls a0 TY W h41)
  have C42 := Lib.hid (fun W => dB (spec_TypeAhead.calls k42 a0 TY W h42))
  obtain ⟨tt, htt⟩ : ∃ b, isTrue a0 = b := ⟨_, rfl⟩
  have c10 := fun W (h : TabsU W) => trueText_calls a0 W (by omega) h
  obtain ⟨k43, h43⟩ := (specTrue_ends a0 (by omega)).rounds
  rw [htt] at c10 h43
  have C10 := Lib.hid c10
  have C43 := Lib.hid (fun W => dB (spec_TrueText.calls k43 a0 tt W h43))
  obtain ⟨CP, hCP⟩ : ∃ x, strOfNums (cleanG (ns a0)) = x := ⟨_, rfl⟩
  have c44 := fun W => implClean_calls a0 W (by omega)
  obtain ⟨k45, h45⟩ := (specClean_ends a0 (by omega)).rounds
  rw [hCP] at c44 h45
  have C44 := Lib.hid c44
  have C45 := Lib.hid (fun W => spec_CleanPath.calls k45 a0 CP W h45)
  have C46 := Lib.hid (fun W => dB (spec_WithPort.calls k46 a0 tls rp.1 rp.2 W h46))
  have c48 := fun W => impl_WithPort.calls a0 tls _ W (show impl_WithPort.f a0 tls = some (withPort a0 tls) by unfold impl_WithPort.f hertzutils_AddMissingPort.f; rw [if_pos (by omega)]; rfl)
  have C48 := Lib.hid (fun W => dB (c48 W))
  have C47 := Lib.hid (fun W => dB (spec_StatusMessage.calls n rs.1 rs.2 W h47))
  have C9 := Lib.hid (fun W => implMsg_calls n W)
  have HT := Lib.hid hT
  clear hT c37 c38 hNK hsk h39 h40 hTY h41 h42 htt c10 h43 hCP c44 h45 h46 c48 h47 hs0 hs1
  rw [hp] at C46
  rw [hq.1, hq.2] at C47
  obtain ⟨ST, hST⟩ : ∃ x, statMsg n = x := ⟨_, rfl⟩
  rw [hST] at C47 C9
  clear hST
  clear hp hq
  go_enter Tryd.func6, Tryd.ntmps6
  go_upto_region 5 with (first
    | (go_at_call 37; refine (E1.out _).mono ?_; rintro e w1 ⟨rfl, hb⟩; have HB1 := Lib.hid hb; clear hb)
    | (go_at_call 9; refine (G1.out _).mono ?_; rintro e w2 ⟨rfl, hb⟩; have HB2 := Lib.hid (HB1.out.trans (bwk HB1.out.size hb)); clear hb))
  go_upto_region 7 with (go_at_call 11; refine (SH.out _ _ (strs_lit w2 [a0, a1] (by simp) _ rfl)).mono ?_; rintro e w3 ⟨rfl, hb⟩; have HB3 := Lib.hid (HB2.out.trans (bwk HB2.out.size (((Below.refl w2.heap.size w2).alloc (Nat.le_refl _) _).trans (bwk (by simp) hb)))); clear hb)
  go_upto_region 9 with (first
    | (go_at_call 37; refine (C37.out _).mono ?_; rintro e w4 ⟨rfl, hb⟩; have HB4 := Lib.hid (HB3.out.trans (bwk HB3.out.size hb)); clear hb)
    | (go_at_call 38; refine (C38.out _).mono ?_; rintro e w5 ⟨rfl, hb⟩; have HB5 := Lib.hid (HB4.out.trans (bwk HB4.out.size hb)); clear hb)
    | (go_at_call 39; refine (C39.out _).mono ?_; rintro e w6 ⟨rfl, hb⟩; have HB6 := Lib.hid (HB5.out.trans (bwk HB5.out.size hb)); clear hb)
    | (go_at_call 40; refine (C40.out _).mono ?_; rintro e w7 ⟨rfl, hb⟩; have HB7 := Lib.hid (HB6.out.trans (bwk HB6.out.size hb)); clear hb)
    | (go_at_call 41; refine (C41.out _).mono ?_; rintro e w8 ⟨rfl, hb⟩; have HB8 := Lib.hid (HB7.out.trans (bwk HB7.out.size hb)); clear hb)
    | (go_at_call 42; refine (C42.out _).mono ?_; rintro e w9 ⟨rfl, hb⟩; have HB9 := Lib.hid (HB8.out.trans (bwk HB8.out.size hb)); clear hb)
    | (go_at_call 10; refine (C10.out _ (HT.out.below HB9.out)).mono ?_; rintro e w10 ⟨rfl, hb⟩; have HB10 := Lib.hid (HB9.out.trans (bwk HB9.out.size hb)); clear hb)
    | (go_at_call 43; refine (C43.out _).mono ?_; rintro e w11 ⟨rfl, hb⟩; have HB11 := Lib.hid (HB10.out.trans (bwk HB10.out.size hb)); clear hb))
  go_wp2_with (first
    | (go_at_call 44; refine (C44.out _).mono ?_; rintro e w12 ⟨rfl, hb⟩; have HB12 := Lib.hid (HB11.out.trans (bwk HB11.out.size hb)); clear hb)
    | (go_at_call 45; refine (C45.out _).mono ?_; rintro e w13 ⟨rfl, hb⟩; have HB13 := Lib.hid (HB12.out.trans (bwk HB12.out.size hb)); clear hb)
    | (go_at_call 46; refine (C46.out _).mono ?_; rintro e w14 ⟨rfl, hb⟩; have HB14 := Lib.hid (HB13.out.trans (bwk HB13.out.size hb)); clear hb)
    | (go_at_call 47; refine (C47.out _).mono ?_; rintro e w15 ⟨rfl, hb⟩; have HB15 := Lib.hid (HB14.out.trans (bwk HB14.out.size hb)); clear hb)
    | (go_at_call 9; refine (C9.out _).mono ?_; rintro e w17 ⟨rfl, hb⟩; have HB17 := Lib.hid (HB15.out.trans (bwk HB15.out.size hb)); clear hb))
  go_ret
  exact ⟨by first | rfl | simp, HB17.out⟩
set_option maxHeartbeats 4000000 in
set_option maxRecDepth 100000 in
theorem words_ff (a0 a1 : ByteArray) (n : Int) (w : World) (hT : TabsU w) (h0 : ¬ 2147483647 < a0.size) (h1 : ¬ 2147483647 < a1.size) (hs0 : a0.size ≤ 200) (hs1 : a1.size ≤ 200) (hsh : areShort [a0, a1] = true) (tls : Bool) (htls : (Int.tmod n 2 == 0) = tls) (k46 : Nat) (rp : ByteArray × Int) (h46 : spec_WithPort.f k46 a0 tls = some rp) (hp : rp.2 = 2) (rs : ByteArray × Int) (h47 : spec_StatusMessage.f n = some rs) (hq : rs.2 = 2) :
    Calls Tryd.prog 6 #[.string a0, .string a1, .int .i64 n] w fun e w' => e = .returned (.bool true) ∧ Below w.heap.size w w' := by
  have b0 : decide (2147483647 < (a0.size : Int)) = false := decide_eq_false (by omega)
  have b1 : decide (2147483647 < a0.size) = false := decide_eq_false (by omega)
  have b2 : decide (2147483647 < (a1.size : Int)) = false := decide_eq_false (by omega)
  have b3 : decide (2147483647 < a1.size) = false := decide_eq_false (by omega)
  obtain ⟨xa, hxa⟩ : ∃ g, (⟨#[88, 45, 65]⟩ : ByteArray) = g := ⟨_, rfl⟩
  have E1 := Lib.hid (fun W => impl_NormalKey.calls _ _ W norm_const)
  rw [hxa] at E1
  have ex : (xa.toList == ([88, 45, 65] : List UInt8)) = true := by rw [← hxa]; decide +kernel
  obtain ⟨ok, hok⟩ : ∃ g, (⟨#[79, 75]⟩ : ByteArray) = g := ⟨_, rfl⟩
  have G1 := Lib.hid (fun W => implMsg_calls 200 W)
  rw [msg_const, hok] at G1
  have ek : (ok.toList == ([79, 75] : List UInt8)) = true := by rw [← hok]; decide +kernel
  obtain ⟨ks, hks⟩ := (short_ends [a0, a1] (by simp)).rounds
  rw [hsh] at hks
  have SH := Lib.hid (fun W A (h : Kd.C Kd.string W A 2 [a0, a1]) => dB (laws_short.calls ks A 2 [a0, a1] _ W h (by simp) hks))
  clear hks hxa hok hsh h0 h1
  have c37 := fun W => normalKey_calls a0 W (by omega)
  have c38 := fun W => spec_NormalKey.calls a0 _ W (show spec_NormalKey.f a0 = some (strOfNums (nk (ns a0))) by unfold spec_NormalKey.f; rw [if_pos (by omega)])
  obtain ⟨NK, hNK⟩ : ∃ x, strOfNums (nk (ns a0)) = x := ⟨_, rfl⟩
  rw [hNK] at c37 c38
  have C37 := Lib.hid c37
  have C38 := Lib.hid c38
  obtain ⟨sk, hsk⟩ : ∃ b, decide ((ns a0).map o32 = (ns a1).map o32) = b := ⟨_, rfl⟩
  obtain ⟨k39, h39⟩ := (implKey_ends a0 a1 (by omega) (by omega)).rounds
  obtain ⟨k40, h40⟩ := (specKey_ends a0 a1 (by omega)).rounds
  rw [hsk] at h39 h40
  have C39 := Lib.hid (fun W => impl_SameKey.calls k39 a0 a1 sk W h39)
  have C40 := Lib.hid (fun W => dB (spec_SameKey.calls k40 a0 a1 sk W h40))
  obtain ⟨TY, hTY⟩ : ∃ x, a0.extract 0 (typeLen a0) = x := ⟨_, rfl⟩
  have h41 : impl_TypeAhead.f a0 = some (a0.extract 0 (typeLen a0)) := by unfold impl_TypeAhead.f hertzutils_FilterContentType.f; rfl
  obtain ⟨k42, h42⟩ := (specType_ends a0 (by omega)).rounds
  rw [hTY] at h41 h42
  have C41 := Lib.hid (fun W => impl_TypeAhead.calls a0 TY W h41)
  have C42 := Lib.hid (fun W => dB (spec_TypeAhead.calls k42 a0 TY W h42))
  obtain ⟨tt, htt⟩ : ∃ b, isTrue a0 = b := ⟨_, rfl⟩
  have c10 := fun W (h : TabsU W) => trueText_calls a0 W (by omega) h
  obtain ⟨k43, h43⟩ := (specTrue_ends a0 (by omega)).rounds
  rw [htt] at c10 h43
  have C10 := Lib.hid c10
  have C43 := Lib.hid (fun W => dB (spec_TrueText.calls k43 a0 tt W h43))
  obtain ⟨CP, hCP⟩ : ∃ x, strOfNums (cleanG (ns a0)) = x := ⟨_, rfl⟩
  have c44 := fun W => implClean_calls a0 W (by omega)
  obtain ⟨k45, h45⟩ := (specClean_ends a0 (by omega)).rounds
  rw [hCP] at c44 h45
  have C44 := Lib.hid c44
  have C45 := Lib.hid (fun W => spec_CleanPath.calls k45 a0 CP W h45)
  have C46 := Lib.hid (fun W => dB (spec_WithPort.calls k46 a0 tls rp.1 rp.2 W h46))
  have c48 := fun W => impl_WithPort.calls a0 tls _ W (show impl_WithPort.f a0 tls = some (withPort a0 tls) by unfold impl_WithPort.f hertzutils_AddMissingPort.f; rw [if_pos (by omega)]; rfl)
  have C48 := Lib.hid (fun W => dB (c48 W))
  have C47 := Lib.hid (fun W => dB (spec_StatusMessage.calls n rs.1 rs.2 W h47))
  have C9 := Lib.hid (fun W => implMsg_calls n W)
  have HT := Lib.hid hT
  clear hT c37 c38 hNK hsk h39 h40 hTY h41 h42 htt c10 h43 hCP c44 h45 h46 c48 h47 hs0 hs1
  rw [hp] at C46
  rw [hq] at C47
  clear hp hq
  go_enter Tryd.func6, Tryd.ntmps6
  go_upto_region 5 with (first
    | (go_at_call 37; refine (E1.out _).mono ?_; rintro e w1 ⟨rfl, hb⟩; have HB1 := Lib.hid hb; clear hb)
    | (go_at_call 9; refine (G1.out _).mono ?_; rintro e w2 ⟨rfl, hb⟩; have HB2 := Lib.hid (HB1.out.trans (bwk HB1.out.size hb)); clear hb))
  go_upto_region 7 with (go_at_call 11; refine (SH.out _ _ (strs_lit w2 [a0, a1] (by simp) _ rfl)).mono ?_; rintro e w3 ⟨rfl, hb⟩; have HB3 := Lib.hid (HB2.out.trans (bwk HB2.out.size (((Below.refl w2.heap.size w2).alloc (Nat.le_refl _) _).trans (bwk (by simp) hb)))); clear hb)
  go_upto_region 9 with (first
    | (go_at_call 37; refine (C37.out _).mono ?_; rintro e w4 ⟨rfl, hb⟩; have HB4 := Lib.hid (HB3.out.trans (bwk HB3.out.size hb)); clear hb)
    | (go_at_call 38; refine (C38.out _).mono ?_; rintro e w5 ⟨rfl, hb⟩; have HB5 := Lib.hid (HB4.out.trans (bwk HB4.out.size hb)); clear hb)
    | (go_at_call 39; refine (C39.out _).mono ?_; rintro e w6 ⟨rfl, hb⟩; have HB6 := Lib.hid (HB5.out.trans (bwk HB5.out.size hb)); clear hb)
    | (go_at_call 40; refine (C40.out _).mono ?_; rintro e w7 ⟨rfl, hb⟩; have HB7 := Lib.hid (HB6.out.trans (bwk HB6.out.size hb)); clear hb)
    | (go_at_call 41; refine (C41.out _).mono ?_; rintro e w8 ⟨rfl, hb⟩; have HB8 := Lib.hid (HB7.out.trans (bwk HB7.out.size hb)); clear hb)
    | (go_at_call 42; refine (C42.out _).mono ?_; rintro e w9 ⟨rfl, hb⟩; have HB9 := Lib.hid (HB8.out.trans (bwk HB8.out.size hb)); clear hb)
    | (go_at_call 10; refine (C10.out _ (HT.out.below HB9.out)).mono ?_; rintro e w10 ⟨rfl, hb⟩; have HB10 := Lib.hid (HB9.out.trans (bwk HB9.out.size hb)); clear hb)
    | (go_at_call 43; refine (C43.out _).mono ?_; rintro e w11 ⟨rfl, hb⟩; have HB11 := Lib.hid (HB10.out.trans (bwk HB10.out.size hb)); clear hb))
  go_wp2_with (first
    | (go_at_call 44; refine (C44.out _).mono ?_; rintro e w12 ⟨rfl, hb⟩; have HB12 := Lib.hid (HB11.out.trans (bwk HB11.out.size hb)); clear hb)
    | (go_at_call 45; refine (C45.out _).mono ?_; rintro e w13 ⟨rfl, hb⟩; have HB13 := Lib.hid (HB12.out.trans (bwk HB12.out.size hb)); clear hb)
    | (go_at_call 46; refine (C46.out _).mono ?_; rintro e w14 ⟨rfl, hb⟩; have HB14 := Lib.hid (HB13.out.trans (bwk HB13.out.size hb)); clear hb)
    | (go_at_call 47; refine (C47.out _).mono ?_; rintro e w15 ⟨rfl, hb⟩; have HB15 := Lib.hid (HB14.out.trans (bwk HB14.out.size hb)); clear hb))
  go_ret
  exact ⟨by first | rfl | simp, HB15.out⟩
theorem words_all (a0 a1 : ByteArray) (n : Int) (w : World) (hT : TabsU w) : Calls Tryd.prog 6 #[.string a0, .string a1, .int .i64 n] w fun e w' => e = .returned (.bool true) ∧ Below w.heap.size w w' := by
  by_cases h0 : 2147483647 < a0.size
  · exact words_big a0 a1 n w (.inl h0)
  by_cases h1 : 2147483647 < a1.size
  · exact words_big a0 a1 n w (.inr h1)
  cases hsh : areShort [a0, a1] with
  | false => exact words_long a0 a1 n w h0 h1 hsh
  | true =>
    obtain ⟨_, hm⟩ := areShort_mem hsh
    have g0 := hm a0 (by simp)
    have g1 := hm a1 (by simp)
    obtain ⟨tls, htls⟩ : ∃ b, (Int.tmod n 2 == 0) = b := ⟨_, rfl⟩
    obtain ⟨rp, hrp, hp⟩ := specPort_ends a0 tls (by omega)
    obtain ⟨k46, h46⟩ := hrp.rounds
    obtain ⟨rs, h47, hq⟩ := specStat_ends n
    rcases hp with hp | hp <;> rcases hq with hq | hq
    · exact words_ff a0 a1 n w hT h0 h1 g0 g1 hsh tls htls k46 rp h46 hp rs h47 hq
    · exact words_ft a0 a1 n w hT h0 h1 g0 g1 hsh tls htls k46 rp h46 hp rs h47 hq
    · exact words_tf a0 a1 n w hT h0 h1 g0 g1 hsh tls htls k46 rp h46 hp rs h47 hq
    · exact words_tt a0 a1 n w hT h0 h1 g0 g1 hsh tls htls k46 rp h46 hp rs h47 hq
end Go.Proofs.YtgmjaggkiifdjaaDoor.Pure
