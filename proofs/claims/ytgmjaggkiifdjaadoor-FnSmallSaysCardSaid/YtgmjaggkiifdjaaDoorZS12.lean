/- Texts of this claim, one behind the other (merged by wip/prune.py of this repo, without what the proof does not use): GNext. -/
import Derived.Test.YtgmjaggkiifdjaaDoorZS10
import Derived.Test.YtgmjaggkiifdjaaDoorZS11
import Derived.BigQuiet
import Derived.Deep.QuietTactic
set_option linter.unusedVariables false
set_option linter.unusedSimpArgs false
namespace Go.Proofs.YtgmjaggkiifdjaaDoor.Given
open Go.RowKit Go.Proofs.YtgmjaggkiifdjaaDoorW.PrintWords Go.Proofs.YtgmjaggkiifdjaaDoorW.PrintLast Go.Proofs.YtgmjaggkiifdjaaDoorW.PrintMore Go.Proofs.YtgmjaggkiifdjaaDoor.Base Go.Proofs.YtgmjaggkiifdjaaDoor.Gv
def lineLen (xs : List Int) (i : Nat) : Nat := if 0 < i ∧ xs.getD (i - 1) 0 = 13 then i - 1 else i
set_option maxHeartbeats 4000000 in
set_option maxRecDepth 100000 in
theorem nextLine_calls (W : World) (A : Option Addr) (c : Nat) (xs : List Int) (hx : ∀ x ∈ xs, 0 ≤ x ∧ x ≤ 255) (hn : xs.length ≤ 4611686018427387904) (hc : xs.length ≤ c) (h : ReadsOf (Value.int .u8) 0 W A xs.length xs) (hg : GlS [0] W) :
    Calls Tryd.prog 67 #[.slice A xs.length c] W fun e w' => ∃ k, w' = W.drewN k ∧
      ((idx xs 10 = -1 ∧ ∃ u v, e = .returned (.tuple #[.slice none 0 0, .slice none 0 0, .iface u v])) ∨
       ∃ (i : Nat) (A2 : Option Addr) (c1 c2 : Nat), idx xs 10 = (i : Int) ∧ i < xs.length ∧ e = .returned (.tuple #[.slice A (xs.take (lineLen xs i)).length c1, .slice A2 (xs.drop (i + 1)).length c2, .nilIface]) ∧
         ∀ w, ReadsOf (Value.int .u8) 0 w A xs.length xs → ReadsOf (Value.int .u8) 0 w A (xs.take (lineLen xs i)).length (xs.take (lineLen xs i)) ∧ ReadsOf (Value.int .u8) 0 w A2 (xs.drop (i + 1)).length (xs.drop (i + 1))) := by
  have hinfo : (Tryd.prog.info? 5).map (fun i => (i.zero, i.size, i.bytes)) = some (some (.int .u8 0), 1, 1) := by kernel_rfl
  obtain ⟨i0, hi, _, hsz, _⟩ := info_parts hinfo
  have hr := idx_range xs 10
  obtain ⟨n, hidx⟩ : ∃ n, idx xs 10 = n := ⟨_, rfl⟩
  have HI := Lib.hid hidx
  have hcalls := Lib.hid (bytes_IndexByte_calls W A c xs 10 hx (by decide) (by decide) h)
  obtain ⟨uu, vv, herr⟩ := hg _ (List.mem_singleton.2 rfl)
  rw [hidx] at hr
  by_cases hneg : n < 0
  · have hn1 : n = -1 := by omega
    subst hn1
    go_enter Tryd.func67, Tryd.ntmps67
    go_wp2_with (go_at_call 88; refine hcalls.out.mono ?_; rw [HI.out]; rintro e w' ⟨rfl, rfl⟩)
    repeat (go_quiet (fail); try go_wp2)
    go_ret3
    exact ⟨nq, rfl, .inl ⟨HI.out, _, _, rfl⟩⟩
  · obtain ⟨i, rfl⟩ := Int.eq_ofNat_of_zero_le (Int.not_lt.1 hneg)
    have hlt : i < xs.length := by omega
    have htk := fun (j : Nat) (hj : j ≤ xs.length) => print_take_of (P := Tryd.prog) (Value.int .u8) 0 49 5 .i64 Tryd.underlying49 hi hsz A c xs (j : Int) (by omega) (by omega) hc
    obtain ⟨A2, hcut2, hr2, _⟩ := print_drop_of (P := Tryd.prog) (Value.int .u8) 0 49 5 .i64 Tryd.underlying49 hi hsz A c xs ((i : Int) + 1) (by omega) (by omega) hc
    have e1 : ((i : Int) + 1).toNat = i + 1 := by omega
    rw [e1] at hcut2 hr2
    obtain ⟨hcut1, hr1, _⟩ := htk (lineLen xs i) (by unfold lineLen; split <;> omega)
    rw [Int.toNat_natCast] at hcut1 hr1
    have hfin : (∀ e k W', W' = W.drewN k → (∃ c1 c2, e = Ending.returned (.tuple #[.slice A (xs.take (lineLen xs i)).length c1, .slice A2 (xs.drop (i + 1)).length c2, .nilIface])) → ∃ k, W' = W.drewN k ∧ ((idx xs 10 = -1 ∧ ∃ u v, e = Ending.returned (.tuple #[.slice none 0 0, .slice none 0 0, .iface u v])) ∨
       ∃ (i : Nat) (A2 : Option Addr) (c1 c2 : Nat), idx xs 10 = (i : Int) ∧ i < xs.length ∧ e = .returned (.tuple #[.slice A (xs.take (lineLen xs i)).length c1, .slice A2 (xs.drop (i + 1)).length c2, .nilIface]) ∧
         ∀ w, ReadsOf (Value.int .u8) 0 w A xs.length xs → ReadsOf (Value.int .u8) 0 w A (xs.take (lineLen xs i)).length (xs.take (lineLen xs i)) ∧ ReadsOf (Value.int .u8) 0 w A2 (xs.drop (i + 1)).length (xs.drop (i + 1)))) :=
      (fun e k W' hw he => by
        obtain ⟨c1, c2, he⟩ := he
        exact ⟨k, hw, .inr ⟨i, A2, c1, c2, hidx, hlt, he, fun w hw => ⟨hr1 w hw, hr2 w hw⟩⟩⟩)
    obtain ⟨n1, hn1⟩ : ∃ n1, (xs.take (lineLen xs i)).length = n1 := ⟨_, rfl⟩
    obtain ⟨n2, hn2⟩ : ∃ n2, (xs.drop (i + 1)).length = n2 := ⟨_, rfl⟩
    obtain ⟨c2, hc2⟩ : ∃ c2, c - (i + 1) = c2 := ⟨_, rfl⟩
    rw [hn1] at hcut1
    rw [hn2, hc2] at hcut2
    have HN1 := Lib.hid hn1
    have HN2 := Lib.hid hn2
    have HH := Lib.hid h
    have HLT := Lib.hid hlt
    have hcellI := fun (h0 : 0 < i) => h.2.2 (by omega)
    have hbI : ∀ j, j < xs.length → 0 ≤ xs.getD j 0 ∧ xs.getD j 0 ≤ 255 := fun j hj => hx _ (by
      rw [List.getD_eq_getElem?_getD, List.getElem?_eq_getElem hj]; exact List.getElem_mem _)
    obtain ⟨B, hB⟩ : ∃ B, xs.getD (i - 1) 0 = B := ⟨_, rfl⟩
    have hBr := hbI (i - 1) (by omega)
    have hidef : lineLen xs i = if 0 < i ∧ B = 13 then i - 1 else i := by unfold lineLen; rw [hB]
    obtain ⟨L, hL⟩ : ∃ L, lineLen xs i = L := ⟨_, rfl⟩
    rw [hL] at hcut1 hidef
    have hcell : 0 < i → ∃ ad, A = some ad ∧ W.cell? (ad.add (i - 1)) = some (.int .u8 B) := fun h0 => by
      obtain ⟨ad, e, hcc⟩ := h.2.2 (by omega)
      exact ⟨ad, e, by rw [← hB]; exact hcc (i - 1) (by omega)⟩
    have hilen : i < xs.length := hlt
    obtain ⟨N, hN⟩ : ∃ N, xs.length = N := ⟨_, rfl⟩
    have HC := hcalls.out
    rw [hB] at hBr
    rw [hN] at hcut1 hcut2 hlt hilen HC hn hfin ⊢
    have HFIN := Lib.hid hfin
    clear hfin
    have HN := Lib.hid hN
    have HHN := Lib.hid hlt
    replace HC := Lib.hid HC
    clear hn1 hn2 hc2 hr1 hr2 htk e1 hneg hr hi hinfo hsz hc h hL hcellI hbI hx hidx hB hcalls hg herr hN
    have hi62 : i < 4611686018427387904 := by omega
    clear hlt hilen hn
    rcases Nat.eq_zero_or_pos i with h0 | h0
    · subst h0
      obtain rfl : L = 0 := by rw [hidef, if_neg (by omega)]
      clear hidef hcell
      rw [show ((0 : Nat) : Int) + 1 = 1 from rfl] at hcut2
      rw [show ((0 : Nat) : Int) = 0 from rfl] at hcut1
      go_enter Tryd.func67, Tryd.ntmps67
      go_wp2_with (go_at_call 88; refine HC.out.mono ?_; rw [HI.out]; rintro e w' ⟨rfl, rfl⟩)
      repeat (go_quiet (fail); try go_wp2)
      go_ret3
      exact HFIN.out _ nq _ rfl ⟨c, c2, by rw [HN1.out, HN2.out]; rfl⟩
    · obtain ⟨i, rfl⟩ : ∃ j, i = j + 1 := ⟨i - 1, by omega⟩
      obtain ⟨ad, rfl, hcell0⟩ := hcell (by omega)
      rw [Nat.add_sub_cancel] at hcell0 hidef
      have hiN : i < N := by have := HHN.out; omega
      clear hcell
      push_cast at hcut2
      by_cases h13 : B = 13
      · subst h13
        obtain rfl : L = i := by rw [hidef, if_pos ⟨by omega, rfl⟩]
        clear hidef
        go_enter Tryd.func67, Tryd.ntmps67
        go_wp2_with (go_at_call 88; refine HC.out.mono ?_; rw [HI.out]; rintro e w' ⟨rfl, rfl⟩)
        repeat (go_quiet (fail); try go_wp2)
        go_ret3
        exact HFIN.out _ nq _ rfl ⟨c, c2, by rw [HN1.out, HN2.out]; rfl⟩
      · obtain rfl : L = i + 1 := by rw [hidef, if_neg (fun hh => h13 hh.2)]
        clear hidef
        push_cast at hcut1
        go_enter Tryd.func67, Tryd.ntmps67
        go_wp2_with (go_at_call 88; refine HC.out.mono ?_; rw [HI.out]; rintro e w' ⟨rfl, rfl⟩)
        repeat (go_quiet (fail); try go_wp2)
        go_ret3
        exact HFIN.out _ nq _ rfl ⟨c, c2, by rw [HN1.out, HN2.out]; rfl⟩
def impl_NextLine.f (a0 : ByteArray) : Option (ByteArray × ByteArray × Bool) :=
  if a0.size ≤ 4611686018427387904 then some (if idx (ns a0) 10 = -1 then (⟨#[]⟩, ⟨#[]⟩, false) else (strOfNums ((ns a0).take (lineLen (ns a0) (idx (ns a0) 10).toNat)), strOfNums ((ns a0).drop ((idx (ns a0) 10).toNat + 1)), true)) else none
theorem reads_conv {w : World} {A : Option Addr} {c : Nat} {xs : List Int} (h : ReadsOf (Value.int .u8) 0 w A xs.length xs) : (convert 49 9 (.slice A xs.length c)).run Tryd.prog w = .ok (.string (strOfNums xs)) w := by
  have := Kd.C_string (P := Tryd.prog) (A := A) (c := c) Tryd.underlying49 Tryd.underlying5 Tryd.underlying9 (Kd.C_of_reads (d := (0 : Int)) (h1 := fun _ => rfl) h)
  simpa using this
set_option maxHeartbeats 4000000 in
set_option maxRecDepth 100000 in
theorem impl_NextLine.calls (a0 : ByteArray) (r1 r2 : ByteArray) (r3 : Bool) (w : World) (hg : GlS [0] w) (h : impl_NextLine.f a0 = some (r1, r2, r3)) :
    Calls Tryd.prog 35 #[.string a0] w fun e w' => e = .returned (.tuple #[.string r1, .string r2, .bool r3]) ∧ Below w.heap.size w w' := by
  unfold impl_NextLine.f at h
  by_cases hbd : a0.size ≤ 4611686018427387904
  · rw [if_pos hbd] at h
    have hres := Option.some.inj h
    clear h
    have hcv := Lib.run_convert_string_bytes (P := Tryd.prog) w 9 49 5 a0 Tryd.underlying9 Tryd.underlying49 Tryd.underlying5
    have hbr := Br.conv w 5 a0
    have hbl := conv_below w 5 a0
    obtain ⟨c, hc⟩ : ∃ c, grownCap w a0.size 0 5 = c := ⟨_, rfl⟩
    have hcap : a0.size ≤ c := by rw [← hc]; exact grownCap_ge w a0.size 0 _
    rw [hc] at hcv
    clear hc
    obtain ⟨W, hW⟩ : ∃ W, Lib.bytesWorld w 5 a0 = W := ⟨_, rfl⟩
    rw [hW] at hcv hbr hbl
    clear hW
    have hrd := hbr.reads (by rw [ns_length]; omega)
    have hcalls := nextLine_calls W (some ⟨w.heap.size, 0, none⟩) c (ns a0) (fun x hx => ns_range a0 x hx) (by rw [ns_length]; exact hbd) (by rw [ns_length]; exact hcap) hrd (hg.at hbl (fun _ h => h))
    rw [ns_length] at hcalls hrd
    have HL := Lib.hid hbl
    have HRD := Lib.hid hrd
    clear hbr hbl hrd hg hcap
    by_cases hm : idx (ns a0) 10 = -1
    · rw [if_pos hm] at hres
      obtain ⟨rfl, rfl, rfl⟩ : (⟨#[]⟩ : ByteArray) = r1 ∧ (⟨#[]⟩ : ByteArray) = r2 ∧ false = r3 := ⟨(Prod.mk.inj hres).1, (Prod.mk.inj (Prod.mk.inj hres).2).1, (Prod.mk.inj (Prod.mk.inj hres).2).2⟩
      have HC : Hid (Calls Tryd.prog 67 #[.slice (some ⟨w.heap.size, 0, none⟩) a0.size c] W fun e w' => ∃ k u v, w' = W.drewN k ∧ e = .returned (.tuple #[.slice none 0 0, .slice none 0 0, .iface u v])) := Lib.hid (hcalls.mono (by
        rintro e w' ⟨k, hk, h⟩
        rcases h with ⟨_, u, v, he⟩ | ⟨i, A2, c1, c2, hi, _⟩
        · exact ⟨k, u, v, hk, he⟩
        · rw [hm] at hi; omega))
      clear hcalls hm hres
      go_enter Tryd.func35, Tryd.ntmps35
      go_wp2_with (go_at_call 67; refine HC.out.mono ?_; rintro e w' ⟨k, u, v, rfl, rfl⟩)
      go_ret3
      exact ⟨rfl, by apply pw_below_drewN; exact HL.out⟩
    · rw [if_neg hm] at hres
      have HRS := Lib.hid hres
      have HC : Hid (Calls Tryd.prog 67 #[.slice (some ⟨w.heap.size, 0, none⟩) a0.size c] W fun e w' => ∃ k n1 n2 A2 c1 c2, w' = W.drewN k ∧ e = .returned (.tuple #[.slice (some ⟨w.heap.size, 0, none⟩) n1 c1, .slice A2 n2 c2, .nilIface]) ∧
          (∀ q, (convert 49 9 (.slice (some ⟨w.heap.size, 0, none⟩) n1 c1)).run Tryd.prog (W.drewN q) = .ok (.string r1) (W.drewN q)) ∧ ∀ q, (convert 49 9 (.slice A2 n2 c2)).run Tryd.prog (W.drewN q) = .ok (.string r2) (W.drewN q)) := Lib.hid (hcalls.mono (by
        rintro e w' ⟨k, hk, h⟩
        rcases h with ⟨h, _⟩ | ⟨i, A2, c1, c2, hi, _, he, hfin⟩
        · exact absurd h hm
        · have hr := fun q => hfin (W.drewN q) HRD.out
          rw [hi, Int.toNat_natCast] at hres
          refine ⟨k, _, _, A2, c1, c2, hk, he, fun q => ?_, fun q => ?_⟩
          · rw [reads_conv (hr q).1, (Prod.mk.inj hres).1]
          · rw [reads_conv (hr q).2, (Prod.mk.inj (Prod.mk.inj hres).2).1]))
      obtain rfl : true = r3 := (Prod.mk.inj (Prod.mk.inj hres).2).2
      clear hcalls hm hres
      go_enter Tryd.func35, Tryd.ntmps35
      go_wp2_with (go_at_call 67; refine HC.out.mono ?_; rintro e w' ⟨k, n1, n2, A2, c1, c2, rfl, rfl, hv1, hv2⟩)
      go_region
      all_goals (simp only [Exit.then]; go_wp2; go_ret3; exact ⟨rfl, by repeat (first | exact HL.out | apply pw_below_drewN | apply below_drew1)⟩)
  · rw [if_neg hbd] at h
    cases h
end Go.Proofs.YtgmjaggkiifdjaaDoor.Given
