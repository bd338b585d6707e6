/- ParseUintBuf, ParseContentLength and LengthOf: a text of digits as a number. -/
import Derived.Test.YtdfeojkombmiaaaDoorGvRow
import Derived.Test.YtdfeojkombmiaaaDoorGNext
set_option linter.unusedVariables false
namespace Go.Proofs.YtdfeojkombmiaaaDoor.Given
open Go.RowKit Go.Proofs.YtdfeojkombmiaaaDoorW.PrintWords Go.Proofs.YtdfeojkombmiaaaDoorW.PrintLast Go.Proofs.YtdfeojkombmiaaaDoorW.PrintMore Go.Proofs.YtdfeojkombmiaaaDoor.Base Go.Proofs.YtdfeojkombmiaaaDoor.Gv

/-- One digit more: what the code reckons, with its wrap. -/
def more10 (v c : Int) : Int := wrap64 (wrap64 (10 * v) + (c - 48))
/-- What is read from place i on: a number and the place where the reading ends; none: an error. -/
def uintGo : Nat → Int → List Int → Option (Int × Nat)
  | i, v, [] => if i = 0 then none else some (v, i)
  | i, v, c :: r => if 48 ≤ c ∧ c ≤ 57 then (if more10 v c < v then none else uintGo (i + 1) (more10 v c) r) else if i = 0 then none else some (v, i)
def UintSays (xs : List Int) (R : Option (Int × Nat)) (e : Ending) : Prop :=
  match R with
  | none => ∃ a b u x, e = .returned (.tuple #[.int .i64 a, .int .i64 b, .iface u x])
  | some (v, n) => e = .returned (.tuple #[.int .i64 v, .int .i64 (n : Int), .nilIface])
set_option maxHeartbeats 4000000 in
set_option maxRecDepth 100000 in
theorem parseUint_calls (W : World) (A : Option Addr) (c : Nat) (xs : List Int) (hx : ∀ x ∈ xs, 0 ≤ x ∧ x ≤ 255) (hn : xs.length ≤ 4611686018427387904) (h : ReadsOf (Value.int .u8) 0 W A xs.length xs)
    (hg : GlS [1, 2, 3] W) :
    Calls Tryd.prog 14 #[.slice A xs.length c] W fun e w' => ∃ k, w' = W.drewN k ∧ UintSays xs (uintGo 0 0 xs) e := by
  obtain ⟨u1, v1, g1⟩ := hg 1 (by simp)
  obtain ⟨u2, v2, g2⟩ := hg 2 (by simp)
  obtain ⟨u3, v3, g3⟩ := hg 3 (by simp)
  obtain ⟨N, hN⟩ : ∃ N, xs.length = N := ⟨_, rfl⟩
  rw [hN] at h hn ⊢
  have HN := Lib.hid hN
  clear hN
  rcases Nat.eq_zero_or_pos N with h0 | h0
  · subst h0
    have hnil : xs = [] := List.eq_nil_of_length_eq_zero HN.out
    go_enter Tryd.func14, Tryd.ntmps14
    go_wp2
    repeat (go_quiet (fail); try go_wp2)
    go_ret3
    exact ⟨nq, rfl, by rw [hnil]; exact ⟨_, _, _, _, rfl⟩⟩
  · obtain ⟨ad, rfl, hcell⟩ := h.2.2 h0
    have hne : xs ≠ [] := by rintro rfl; have := HN.out; simp at this; omega
    have HC := Lib.hid hcell
    have HX := Lib.hid hx
    clear hcell h hg
    obtain ⟨RES, hR⟩ : ∃ R, uintGo 0 0 xs = R := ⟨_, rfl⟩
    have HR := Lib.hid hR
    rw [hR]
    clear hR
    go_enter Tryd.func14, Tryd.ntmps14
    go_wp2
    go_loopw [6, 7, 8, 9, 10] (fun v i _ _ _ wr => ∃ (k m : Nat) (r : Int), wr = W.drewN m ∧ v = .int .i64 r ∧ i = .int .i64 k ∧ k ≤ N ∧ Hid (uintGo k r (xs.drop k) = RES)) (fun _ i _ _ _ _ => N - (intOf i).toNat)
    case atStart => exact ⟨0, 0, 0, rfl, rfl, rfl, by omega, Lib.hid (by rw [List.drop_zero]; exact HR.out)⟩
    case round =>
      obtain ⟨k, m, r, rfl, rfl, rfl, hk, HL⟩ := hrel
      by_cases hlt : k < N
      · have hck := HC.out k hlt
        have hbr := HX.out (xs.getD k 0) (by
          have hl : k < xs.length := by rw [HN.out]; exact hlt
          rw [List.getD_eq_getElem?_getD, List.getElem?_eq_getElem hl]; exact List.getElem_mem _)
        have hdr : xs.drop k = xs.getD k 0 :: xs.drop (k + 1) := by
          have hl : k < xs.length := by rw [HN.out]; exact hlt
          rw [List.drop_eq_getElem_cons hl, List.getD_eq_getElem?_getD, List.getElem?_eq_getElem hl]; rfl
        obtain ⟨b, hb⟩ : ∃ b, xs.getD k 0 = b := ⟨_, rfl⟩
        rw [hb] at hck hbr hdr
        have HD : Hid (uintGo k r (b :: xs.drop (k + 1)) = RES) := Lib.hid (by rw [← hdr]; exact HL.out)
        clear hb hdr HL
        by_cases hdig : 48 ≤ b ∧ b ≤ 57
        · obtain ⟨d1, d2⟩ := hdig
          by_cases hov : wrap64 (wrap64 (10 * r) + (b - 48)) < r
          · have hnone : Hid (RES = none) := Lib.hid (by have := HD.out; unfold uintGo at this; rw [if_pos ⟨d1, d2⟩, if_pos (show more10 r b < r from hov)] at this; exact this.symm)
            go_wp2
            repeat (go_quiet (fail); try go_wp2)
            go_ret3
            exact ⟨m + nq, by rw [World.drewN_drewN], by rw [hnone.out]; exact ⟨_, _, _, _, rfl⟩⟩
          · have hgo : Hid (uintGo (k + 1) (wrap64 (wrap64 (10 * r) + (b - 48))) (xs.drop (k + 1)) = RES) := Lib.hid (by have := HD.out; unfold uintGo at this; rw [if_pos ⟨d1, d2⟩, if_neg (show ¬ more10 r b < r from hov)] at this; exact this)
            go_wp2
            go_roundw
            case rel => exact ⟨k + 1, m, _, rfl, rfl, by go_num, by omega, hgo⟩
            case measure => simp [intOf]; omega
        · have HD2 : Hid ((if k = 0 then none else some (r, k)) = RES) := Lib.hid (by have := HD.out; unfold uintGo at this; rw [if_neg hdig] at this; exact this)
          have h9 : 9 < (b - 48) % 256 := by omega
          clear hdig
          rcases Nat.eq_zero_or_pos k with hk0 | hk0
          · subst hk0
            have hck0 : W.cell? ad = some (.int .u8 b) := by simpa [Addr.add] using hck
            go_wp2
            repeat (go_quiet (fail); try go_wp2)
            go_ret3
            exact ⟨m + nq, by rw [World.drewN_drewN], by rw [← HD2.out]; exact ⟨_, _, _, _, rfl⟩⟩
          · go_wp2
            repeat (go_quiet (fail); try go_wp2)
            go_ret3
            exact ⟨m, rfl, by rw [← HD2.out, if_neg (by omega)]; rfl⟩
      · obtain rfl : k = N := by omega
        have hsome : Hid (RES = some (r, k)) := Lib.hid (by have := HL.out; rw [List.drop_eq_nil_of_le (by rw [HN.out]; exact Nat.le_refl _), uintGo, if_neg (by omega)] at this; exact this.symm)
        clear HL
        go_wp2
        repeat (go_quiet (fail); try go_wp2)
        go_ret3
        exact ⟨m, rfl, by rw [hsome.out]; rfl⟩
/-- The number that a text of digits is. -/
def lenOf (xs : List Int) : Option Int :=
  match uintGo 0 0 xs with
  | none => none
  | some (v, n) => if n = xs.length then some v else none
set_option maxHeartbeats 1000000 in
theorem errorsNew_calls (s : ByteArray) (w : World) : Calls Tryd.prog 15 #[.string s] w fun e w' => Below w.heap.size w w' ∧ ∃ u x, e = .returned (.iface u x) := by
  go_enter Tryd.func15, Tryd.ntmps15
  go_wp2
  go_ret
  exact ⟨(Below.refl _ _).alloc (Nat.le_refl _) _, _, _, rfl⟩
set_option maxHeartbeats 4000000 in
set_option maxRecDepth 100000 in
theorem parseLength_calls (W : World) (A : Option Addr) (c : Nat) (xs : List Int) (hx : ∀ x ∈ xs, 0 ≤ x ∧ x ≤ 255) (hn : xs.length ≤ 4611686018427387904) (h : ReadsOf (Value.int .u8) 0 W A xs.length xs)
    (hg : GlS [1, 2, 3] W) :
    Calls Tryd.prog 12 #[.slice A xs.length c] W fun e w' => Below W.heap.size W w' ∧
      (match lenOf xs with
      | some r => e = .returned (.tuple #[.int .i64 r, .nilIface])
      | none => ∃ a u x, e = .returned (.tuple #[.int .i64 a, .iface u x])) := by
  have hc0 := parseUint_calls W A c xs hx hn h hg
  obtain ⟨N, hN⟩ : ∃ N, xs.length = N := ⟨_, rfl⟩
  obtain ⟨R, hR⟩ : ∃ R, lenOf xs = R := ⟨_, rfl⟩
  rw [hR]
  unfold lenOf at hR
  rw [hN] at h hn hc0 hR ⊢
  clear hN hg h hx
  cases hu : uintGo 0 0 xs with
  | none =>
    rw [hu] at hR hc0
    obtain rfl : none = R := hR
    have HC := Lib.hid hc0
    clear hc0 hu
    go_enter Tryd.func12, Tryd.ntmps12
    go_wp2_with (go_at_call 14; refine HC.out.mono ?_; rintro e w' ⟨k, rfl, a, b, u, x, rfl⟩)
    repeat (go_quiet (fail); try go_wp2)
    go_ret2
    exact ⟨by repeat (first | exact Below.refl _ _ | apply pw_below_drewN | apply below_drew1), _, _, _, rfl⟩
  | some p =>
    obtain ⟨v, n⟩ := p
    rw [hu] at hR hc0
    have HC : Hid (Calls Tryd.prog 14 #[.slice A N c] W fun e w' => ∃ k, w' = W.drewN k ∧ e = .returned (.tuple #[.int .i64 v, .int .i64 (n : Int), .nilIface])) := Lib.hid hc0
    have hR2 : (if n = N then some v else none) = R := hR
    clear hc0 hR hu
    by_cases hnN : n = N
    · subst hnN
      rw [if_pos rfl] at hR2
      subst hR2
      go_enter Tryd.func12, Tryd.ntmps12
      go_wp2_with (go_at_call 14; refine HC.out.mono ?_; rintro e w' ⟨k, rfl, rfl⟩)
      repeat (go_quiet (fail); try go_wp2)
      go_ret2
      exact ⟨by repeat (first | exact Below.refl _ _ | apply pw_below_drewN | apply below_drew1), rfl⟩
    · rw [if_neg hnN] at hR2
      subst hR2
      have hne : ((n : Int) != (N : Int)) = true := bne_iff_ne.2 (by omega)
      go_enter Tryd.func12, Tryd.ntmps12
      go_wp2_with (first | (go_at_call 14; refine HC.out.mono ?_; rintro e w' ⟨k, rfl, rfl⟩) | (go_at_call 15; refine (errorsNew_calls _ _).mono ?_; rintro e w' ⟨hb, u, x, rfl⟩))
      go_ret2
      exact ⟨below_step (by apply pw_below_drewN; exact Below.refl _ _) hb, _, _, _, rfl⟩
def impl_LengthOf.f (a0 : ByteArray) : Option (Int × Bool) :=
  if a0.size ≤ 4611686018427387904 then some (match lenOf (ns a0) with | some r => (r, true) | none => (0, false)) else none
set_option maxHeartbeats 4000000 in
set_option maxRecDepth 100000 in
theorem impl_LengthOf.calls (a0 : ByteArray) (r1 : Int) (r2 : Bool) (w : World) (hg : GlS [1, 2, 3] w) (h : impl_LengthOf.f a0 = some (r1, r2)) :
    Calls Tryd.prog 9 #[.string a0] w fun e w' => e = .returned (.tuple #[.int .i64 r1, .bool r2]) ∧ Below w.heap.size w w' := by
  unfold impl_LengthOf.f at h
  by_cases hbd : a0.size ≤ 4611686018427387904
  · rw [if_pos hbd] at h
    have hres := Option.some.inj h
    clear h
    have hcv := Lib.run_convert_string_bytes (P := Tryd.prog) w 9 23 5 a0 Tryd.underlying9 Tryd.underlying23 Tryd.underlying5
    have hbr := Br.conv w 5 a0
    have hbl := conv_below w 5 a0
    obtain ⟨c, hc⟩ : ∃ c, grownCap w a0.size 0 5 = c := ⟨_, rfl⟩
    rw [hc] at hcv
    clear hc
    obtain ⟨W, hW⟩ : ∃ W, Lib.bytesWorld w 5 a0 = W := ⟨_, rfl⟩
    rw [hW] at hcv hbr hbl
    clear hW
    have hrd := hbr.reads (by rw [ns_length]; omega)
    have hcalls := parseLength_calls W (some ⟨w.heap.size, 0, none⟩) c (ns a0) (fun x hx => ns_range a0 x hx) (by rw [ns_length]; exact hbd) hrd (hg.at hbl (fun _ h => h))
    rw [ns_length] at hcalls
    have HL := Lib.hid hbl
    clear hbr hbl hg hrd
    cases hlen : lenOf (ns a0) with
    | some r =>
      rw [hlen] at hres hcalls
      obtain ⟨rfl, rfl⟩ := Prod.mk.inj hres
      have HC := Lib.hid hcalls
      clear hcalls hres hlen
      go_enter Tryd.func9, Tryd.ntmps9
      go_wp2_with (go_at_call 12; refine HC.out.mono ?_; rintro e w' ⟨hb, rfl⟩)
      go_ret2
      exact ⟨rfl, below_step HL.out hb⟩
    | none =>
      rw [hlen] at hres hcalls
      obtain ⟨rfl, rfl⟩ := Prod.mk.inj hres
      have HC := Lib.hid hcalls
      clear hcalls hres hlen
      go_enter Tryd.func9, Tryd.ntmps9
      go_wp2_with (go_at_call 12; refine HC.out.mono ?_; rintro e w' ⟨hb, a, u, x, rfl⟩)
      go_ret2
      exact ⟨rfl, below_step HL.out hb⟩
  · rw [if_neg hbd] at h
    cases h
end Go.Proofs.YtdfeojkombmiaaaDoor.Given
