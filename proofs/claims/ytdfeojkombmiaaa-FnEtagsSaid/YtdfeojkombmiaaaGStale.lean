/- ZzStale: whether an etag is none of a header's, over any texts. -/
import Derived.Test.YtdfeojkombmiaaaGvRow
import Derived.Test.YtdfeojkombmiaaaQA5
set_option linter.unusedVariables false
namespace Go.Proofs.Ytdfeojkombmiaaa.Given
open Go.RowKit Go.Proofs.YtdfeojkombmiaaaW.PrintWords Go.Proofs.YtdfeojkombmiaaaW.PrintLast Go.Proofs.YtdfeojkombmiaaaW.PrintMore Go.Proofs.Ytdfeojkombmiaaa.Base Go.Proofs.Ytdfeojkombmiaaa.Gv Go.Proofs.Ytdfeojkombmiaaa.QA

def wk : List Int := [87, 47]
/-- Two etags match that are the same but for W/ ahead of one of them. -/
def etagM (s t : List Int) : Bool := decide (s = t) || decide (s = wk ++ t) || decide (wk ++ s = t)
theorem toList_ns (a b : ByteArray) : a.toList = b.toList ↔ ns a = ns b := ⟨fun h => by rw [(toList_eq_iff a b).1 h], fun h => by rw [ns_inj h]⟩
theorem matchEtag_is (s t : ByteArray) (hs : s.size ≤ 4611686018427387904) (ht : t.size ≤ 4611686018427387904) : fiberhelpers_matchEtag.f s t = some (etagM (ns s) (ns t)) := by
  unfold fiberhelpers_matchEtag.f etagM
  have hw : ns (⟨#[87, 47]⟩ : ByteArray) = wk := by decide
  by_cases h1 : ns s = ns t
  · rw [if_pos ((toList_ns _ _).2 h1)]; simp [h1]
  · rw [if_neg (fun e => h1 ((toList_ns _ _).1 e)), if_pos (by omega)]
    by_cases h2 : ns s = wk ++ ns t
    · rw [if_pos ((toList_ns _ _).2 (by rw [ns_append, hw]; exact h2))]; simp [h2]
    · rw [if_neg (fun e => h2 (by have := (toList_ns _ _).1 e; rwa [ns_append, hw] at this)), if_pos (by omega)]
      by_cases h3 : wk ++ ns s = ns t
      · rw [if_pos ((toList_ns _ _).2 (by rw [ns_append, hw]; exact h3))]; simp [h3]
      · rw [if_neg (fun e => h3 (by have := (toList_ns _ _).1 e; rwa [ns_append, hw] at this))]; simp [h1, h2, h3]
/-- The scan: what stands of the part at hand, the blanks behind it, what is left. -/
def staleGo (tag : List Int) : List Int → List Int → List Int → Bool
  | seg, _, [] => !etagM seg tag
  | seg, gap, c :: rest =>
    if c = 32 then (if seg = [] then staleGo tag [] [] rest else staleGo tag seg (gap ++ [32]) rest)
    else if c = 44 then (if etagM seg tag = true then false else staleGo tag [] [] rest)
    else staleGo tag (seg ++ gap ++ [c]) [] rest
def fiberhelpers_ZzStale.f (a0 a1 : ByteArray) : Option Bool := if a0.size ≤ 4611686018427387904 ∧ a1.size ≤ 4611686018427387904 then some (staleGo (ns a0) [] [] (ns a1)) else none
theorem seg_is (pre seg gap rest : List Int) (p q : Nat) (hp : p = pre.length) (hq : q = p + seg.length) : ((pre ++ seg ++ gap ++ rest).take q).drop p = seg := by
  subst hp hq
  have h1 : pre ++ seg ++ gap ++ rest = (pre ++ seg) ++ (gap ++ rest) := by simp
  have h2 : pre.length + seg.length = (pre ++ seg).length := by simp
  rw [h1, h2, List.take_left, List.drop_left]
theorem at_is (pre seg gap rest : List Int) (c : Int) (q : Nat) (hq : q = pre.length + seg.length + gap.length) : (pre ++ seg ++ gap ++ c :: rest).getD q 0 = c := by
  subst hq
  have : pre.length + seg.length + gap.length = (pre ++ seg ++ gap).length := by simp; omega
  rw [this, List.getD_eq_getElem?_getD, List.getElem?_append_right (Nat.le_refl _), Nat.sub_self]; rfl
set_option maxHeartbeats 4000000 in
set_option maxRecDepth 100000 in
theorem isEtagStale_calls (W : World) (a0 : ByteArray) (g n c : Nat) (xs : List Int) (ha : a0.size ≤ 4611686018427387904) (hx : ∀ x ∈ xs, 0 ≤ x ∧ x ≤ 255) (hn : xs.length = n) (hnl : n ≤ 4611686018427387904) (hc : n ≤ c) (hb : Br W 5 g xs) :
    Calls Try.prog 60 #[.string a0, .slice (some ⟨g, 0, none⟩) n c] W fun e w' => e = .returned (.bool (staleGo (ns a0) [] [] xs)) ∧ Drawn0 W w' := by
  have HB := Lib.hid hb
  have HN := Lib.hid hn
  have HX := Lib.hid hx
  have hinfo : (Try.prog.info? 5).map (fun i => (i.zero, i.size, i.bytes)) = some (some (.int .u8 0), 1, 1) := by kernel_rfl
  obtain ⟨i0, hi, _, hsz, _⟩ := info_parts hinfo
  have HI := Lib.hid (And.intro hi hsz)
  obtain ⟨res, hres⟩ : ∃ res, staleGo (ns a0) [] [] xs = res := ⟨_, rfl⟩
  have HR := Lib.hid hres
  rw [hres]
  clear hb hn hx hinfo hi hsz hres
  go_enter Try.func60, Try.ntmps60
  go_wp2
  go_loopw [5, 6, 10] (fun s e i wr => ∃ (pre seg gap rest : List Int) (p q k m : Nat), wr = W.drewN m ∧ s = .int .i64 p ∧ e = .int .i64 q ∧ i = .int .i64 k ∧ p = pre.length ∧ q = p + seg.length ∧ k = q + gap.length ∧ Hid (xs = pre ++ seg ++ gap ++ rest) ∧ Hid (seg = [] → gap = []) ∧ Hid (staleGo (ns a0) seg gap rest = res)) (fun _ _ i _ => n - (intOf i).toNat)
  case atStart => exact ⟨[], [], [], xs, 0, 0, 0, 0, rfl, rfl, rfl, rfl, rfl, rfl, rfl, Lib.hid rfl, Lib.hid (fun _ => rfl), HR⟩
  case round =>
    obtain ⟨pre, seg, gap, rest, p, q, k, m, rfl, rfl, rfl, rfl, hp, hq, hk, HE, HG, HS⟩ := hrel
    have HP := Lib.hid hp
    have HQ := Lib.hid hq
    have HK := Lib.hid hk
    have hpq : p ≤ q := by omega
    have hqk : q ≤ k := by omega
    have hkn : k + rest.length = n := by
      have h1 := congrArg List.length HE.out
      rw [HN.out] at h1
      simp only [List.length_append] at h1
      omega
    have hkle : k ≤ n := by omega
    have HKN := Lib.hid hkn
    clear hp hq hk hkn
    have hmid : ∃ A' : Option Addr, (∀ W : World, (Instr.slice 34 (.slice (some ⟨g, 0, none⟩) n c) (some (.int .i64 p)) (some (.int .i64 q)) none).run Try.prog W = .ok (.slice A' (q - p) (c - p)) W) ∧ (convert 34 9 (.slice A' (q - p) (c - p))).run Try.prog (W.drewN m) = .ok (.string (strOfNums seg)) (W.drewN m) := by
      obtain ⟨A', h1, h2⟩ := Br.mid (P := Try.prog) Try.underlying34 Try.underlying5 Try.underlying9 HI.out.1 HI.out.2 g c xs p q hpq (by rw [HN.out]; omega) (by rw [HN.out]; exact hc) (by rw [HN.out]; omega)
      rw [HN.out] at h1
      refine ⟨A', h1, ?_⟩
      have h3 := h2 (W.drewN m) (HB.out.drewN m)
      rw [HE.out, seg_is pre seg gap rest p q HP.out HQ.out] at h3
      exact h3
    obtain ⟨A', hcut, htxt⟩ := hmid
    have hsegn : (strOfNums seg).size ≤ 4611686018427387904 := by
      rw [strOfNums_size]
      have h1 := congrArg List.length HE.out
      rw [HN.out] at h1
      simp only [List.length_append] at h1
      omega
    have hnsseg : ns (strOfNums seg) = seg := ns_strOfNums (fun x hx => HX.out x (by rw [HE.out]; simp [hx]))
    have hmatch : Hid (fiberhelpers_matchEtag.f (strOfNums seg) a0 = some (etagM seg (ns a0))) := Lib.hid (by rw [matchEtag_is _ _ hsegn ha, hnsseg])
    clear hsegn hnsseg
    obtain ⟨S, hS⟩ : ∃ S, strOfNums seg = S := ⟨_, rfl⟩
    rw [hS] at htxt hmatch
    clear hS
    obtain ⟨mt, hmt⟩ : ∃ mt, etagM seg (ns a0) = mt := ⟨_, rfl⟩
    rw [hmt] at hmatch
    have HM := Lib.hid hmt
    clear hmt
    cases rest with
    | nil =>
      have hkn : n ≤ k := by have := HKN.out; simp at this; omega
      have hfin : Hid (res = !mt) := Lib.hid (by have := HS.out; unfold staleGo at this; rw [HM.out] at this; exact this.symm)
      go_wp2_with (go_at_call 59; refine (fiberhelpers_matchEtag.calls S a0 mt _ hmatch.out).mono ?_; rintro e w' ⟨rfl, ⟨nd, rfl⟩⟩)
      go_ret
      exact ⟨by rw [hfin.out]; rfl, ⟨⟨m + nd, rfl⟩⟩⟩
    | cons x rest =>
      have hkn : k < n := by have := HKN.out; simp at this; omega
      have hcell : W.cell? ⟨g, k, none⟩ = some (.int .u8 x) := by
        have h1 := HB.out.cell k (by rw [HN.out]; exact hkn)
        rw [HE.out, at_is pre seg gap rest x k (by have := HP.out; have := HQ.out; have := HK.out; omega)] at h1
        exact h1
      by_cases h32 : x = 32
      · subst h32
        by_cases hs : seg = []
        · subst hs
          have hgap : gap = [] := HG.out rfl
          subst hgap
          have hpqe : ((p : Int) == (q : Int)) = true := beq_iff_eq.2 (by have := HQ.out; simp at this; omega)
          have hS1 : Hid (staleGo (ns a0) [] [] rest = res) := Lib.hid (by have := HS.out; unfold staleGo at this; rw [if_pos rfl, if_pos rfl] at this; exact this)
          have hE1 : Hid (xs = (pre ++ [32]) ++ [] ++ [] ++ rest) := Lib.hid (by rw [HE.out]; simp)
          have hl1 : Hid (k + 1 = (pre ++ [(32 : Int)]).length) := Lib.hid (by have := HP.out; have := HQ.out; have := HK.out; simp at *; omega)
          clear hcut htxt
          go_wp2
          go_roundw
          case rel => exact ⟨pre ++ [32], [], [], rest, k + 1, k + 1, k + 1, m, rfl, by go_num, by go_num, by go_num, hl1.out, rfl, rfl, hE1, Lib.hid (fun _ => rfl), hS1⟩
          case measure => simp [intOf]; omega
        · have hpqe : ((p : Int) == (q : Int)) = false := beq_eq_false_iff_ne.2 (by
            have h1 := HQ.out
            have h2 := List.length_pos_iff.2 hs
            omega)
          have hS1 : Hid (staleGo (ns a0) seg (gap ++ [32]) rest = res) := Lib.hid (by have := HS.out; unfold staleGo at this; rw [if_pos rfl, if_neg hs] at this; exact this)
          have hE1 : Hid (xs = pre ++ seg ++ (gap ++ [32]) ++ rest) := Lib.hid (by rw [HE.out]; simp)
          have hG1 : Hid (seg = [] → gap ++ [(32 : Int)] = []) := Lib.hid (fun h => absurd h hs)
          have hl1 : Hid (k + 1 = q + (gap ++ [(32 : Int)]).length) := Lib.hid (by have := HK.out; simp; omega)
          clear hcut htxt hs
          go_wp2
          go_roundw
          case rel => exact ⟨pre, seg, gap ++ [32], rest, p, q, k + 1, m, rfl, rfl, rfl, by go_num, HP.out, HQ.out, hl1.out, hE1, hG1, hS1⟩
          case measure => simp [intOf]; omega
      · by_cases h44 : x = 44
        · subst h44
          cases mt with
          | true =>
            have hfin : Hid (res = false) := Lib.hid (by have := HS.out; unfold staleGo at this; rw [if_neg (by decide), if_pos rfl, if_pos HM.out] at this; exact this.symm)
            clear h32
            go_wp2_with (go_at_call 59; refine (fiberhelpers_matchEtag.calls S a0 true _ hmatch.out).mono ?_; rintro e w' ⟨rfl, ⟨nd, rfl⟩⟩)
            go_ret
            exact ⟨by rw [hfin.out]; rfl, ⟨⟨m + nd, rfl⟩⟩⟩
          | false =>
            have hS1 : Hid (staleGo (ns a0) [] [] rest = res) := Lib.hid (by have := HS.out; unfold staleGo at this; rw [if_neg (by decide), if_pos rfl, if_neg (by rw [HM.out]; decide)] at this; exact this)
            have hE1 : Hid (xs = (pre ++ seg ++ gap ++ [44]) ++ [] ++ [] ++ rest) := Lib.hid (by rw [HE.out]; simp)
            have hl1 : Hid (k + 1 = (pre ++ seg ++ gap ++ [(44 : Int)]).length) := Lib.hid (by have := HP.out; have := HQ.out; have := HK.out; simp only [List.length_append, List.length_cons, List.length_nil]; omega)
            clear h32
            go_wp2_with (go_at_call 59; refine (fiberhelpers_matchEtag.calls S a0 false _ hmatch.out).mono ?_; rintro e w' ⟨rfl, ⟨nd, rfl⟩⟩)
            go_roundw
            case rel => exact ⟨pre ++ seg ++ gap ++ [44], [], [], rest, k + 1, k + 1, k + 1, m + nd, rfl, by go_num, by go_num, by go_num, hl1.out, rfl, rfl, hE1, Lib.hid (fun _ => rfl), hS1⟩
            case measure => simp [intOf]; omega
        · have t32 : (x == 32) = false := beq_eq_false_iff_ne.2 h32
          have t44 : (x == 44) = false := beq_eq_false_iff_ne.2 h44
          have hS1 : Hid (staleGo (ns a0) (seg ++ gap ++ [x]) [] rest = res) := Lib.hid (by have := HS.out; unfold staleGo at this; rw [if_neg h32, if_neg h44] at this; exact this)
          have hE1 : Hid (xs = pre ++ (seg ++ gap ++ [x]) ++ [] ++ rest) := Lib.hid (by rw [HE.out]; simp)
          have hl1 : Hid (k + 1 = p + (seg ++ gap ++ [x]).length) := Lib.hid (by have := HQ.out; have := HK.out; simp only [List.length_append, List.length_cons, List.length_nil]; omega)
          clear hcut htxt h32 h44
          go_wp2
          go_roundw
          case rel => exact ⟨pre, seg ++ gap ++ [x], [], rest, p, k + 1, k + 1, m, rfl, rfl, by go_num, by go_num, HP.out, hl1.out, rfl, hE1, Lib.hid (fun _ => rfl), hS1⟩
          case measure => simp [intOf]; omega
set_option maxHeartbeats 1000000 in
theorem stale_calls (a0 a1 : ByteArray) (w : World) (h0 : a0.size ≤ 4611686018427387904) (h1 : a1.size ≤ 4611686018427387904) :
    Calls Try.prog 49 #[.string a0, .string a1] w fun e w' => e = .returned (.bool (staleGo (ns a0) [] [] (ns a1))) ∧ Below w.heap.size w w' := by
  have hcv := Lib.run_convert_string_bytes (P := Try.prog) w 9 34 5 a1 Try.underlying9 Try.underlying34 Try.underlying5
  have hbr := Br.conv w 5 a1
  have hbl := conv_below w 5 a1
  have hcap := grownCap_ge w a1.size 0 5
  obtain ⟨c, hc⟩ : ∃ c, grownCap w a1.size 0 5 = c := ⟨_, rfl⟩
  rw [hc] at hcv hcap
  clear hc
  obtain ⟨W, hW⟩ : ∃ W, Lib.bytesWorld w 5 a1 = W := ⟨_, rfl⟩
  rw [hW] at hcv hbr hbl
  have HB := Lib.hid hbr
  have HL := Lib.hid hbl
  have hlen : Hid ((ns a1).length = a1.size) := Lib.hid (ns_length a1)
  have hrg : Hid (∀ x ∈ ns a1, 0 ≤ x ∧ x ≤ 255) := Lib.hid (fun x hx => ns_range a1 x hx)
  have hin := Lib.hid (isEtagStale_calls W a0 w.heap.size a1.size c (ns a1) h0 hrg.out hlen.out h1 hcap hbr)
  clear hW hbr hbl hcap
  go_enter Try.func49, Try.ntmps49
  go_wp2_with fail
  refine (hin.out).mono ?_
  rintro e w' ⟨rfl, ⟨nd, rfl⟩⟩
  go_wp2
  go_ret
  exact ⟨rfl, pw_below_drewN HL.out nd⟩
theorem fiberhelpers_ZzStale.calls (a0 a1 : ByteArray) (r : Bool) (w : World) (h : fiberhelpers_ZzStale.f a0 a1 = some r) :
    Calls Try.prog 49 #[.string a0, .string a1] w fun e w' => e = .returned (.bool r) ∧ Below w.heap.size w w' := by
  unfold fiberhelpers_ZzStale.f at h
  by_cases hbd : a0.size ≤ 4611686018427387904 ∧ a1.size ≤ 4611686018427387904
  · rw [if_pos hbd] at h
    obtain rfl : staleGo (ns a0) [] [] (ns a1) = r := Option.some.inj h
    exact stale_calls a0 a1 w hbd.1 hbd.2
  · rw [if_neg hbd] at h
    cases h
end Go.Proofs.Ytdfeojkombmiaaa.Given
