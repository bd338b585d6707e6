/- laws.normal: a key's normal form, by the statements' own loop. -/
import Derived.Test.YtdfeojkombmiaaaGvNhk
import Derived.Test.YtdfeojkombmiaaaGLow
set_option linter.unusedVariables false
namespace Go.Proofs.Ytdfeojkombmiaaa.Given
open Go.RowKit Go.Proofs.YtdfeojkombmiaaaW.PrintWords Go.Proofs.YtdfeojkombmiaaaW.PrintLast Go.Proofs.YtdfeojkombmiaaaW.PrintMore Go.Proofs.Ytdfeojkombmiaaa.Base Go.Proofs.Ytdfeojkombmiaaa.Gv

def laws_normal.f (a0 : ByteArray) : Option ByteArray := if a0.size ≤ 4611686018427387904 then some (strOfNums (nk (ns a0))) else none
theorem lo_id {x : Int} (h : lo x = x) : ¬ (65 ≤ x ∧ x ≤ 90) := by unfold lo at h; split at h <;> omega
theorem set_same (out rest : List Int) (x : Int) : out ++ x :: rest = (out ++ [x]) ++ rest := by simp
set_option maxHeartbeats 4000000 in
set_option maxRecDepth 100000 in
theorem normal_calls (a0 : ByteArray) (w : World) (hbd : a0.size ≤ 4611686018427387904) :
    Calls Try.prog 36 #[.string a0] w fun e w' => e = .returned (.string (strOfNums (nk (ns a0)))) ∧ Below w.heap.size w w' := by
  obtain ⟨n, hn⟩ : ∃ n, a0.size = n := ⟨_, rfl⟩
  have hlow : Hid (Calls Try.prog 37 #[.string a0] w fun e w' => e = .returned (.string (strOfNums ((ns a0).map lo))) ∧ Below w.heap.size w w') := Lib.hid (low_calls a0 w hbd)
  have hns : Hid (ns (strOfNums ((ns a0).map lo)) = (ns a0).map lo) := Lib.hid (ns_strOfNums (fun x hx => by
    obtain ⟨y, hy, rfl⟩ := List.mem_map.1 hx
    exact lo_range (ns_range a0 y hy)))
  have hsz : (strOfNums ((ns a0).map lo)).size = n := by rw [strOfNums_size, List.length_map, ns_length, hn]
  have hL : Hid (∀ x ∈ (ns a0).map lo, (0 ≤ x ∧ x ≤ 255) ∧ lo x = x) := Lib.hid (fun x hx => by
    obtain ⟨y, hy, rfl⟩ := List.mem_map.1 hx
    exact ⟨lo_range (ns_range a0 y hy), lo_lo y⟩)
  have hlen : Hid (((ns a0).map lo).length = n) := Lib.hid (by rw [List.length_map, ns_length, hn])
  have hnk : Hid (nk (ns a0) = nk ((ns a0).map lo)) := Lib.hid (nk_lo _).symm
  obtain ⟨res, hres⟩ : ∃ res, nk (ns a0) = res := ⟨_, rfl⟩
  rw [hres] at hnk
  rw [hres]
  obtain ⟨L, hLL⟩ : ∃ L, (ns a0).map lo = L := ⟨_, rfl⟩
  rw [hLL] at hnk hL hlen hns hlow hsz
  obtain ⟨S, hS⟩ : ∃ S, strOfNums L = S := ⟨_, rfl⟩
  rw [hS] at hns hlow hsz
  rw [hn] at hbd
  clear hres hLL hS hn
  have HSZ := Lib.hid hsz
  clear hsz
  go_enter Try.func36, Try.ntmps36
  go_wp2_with fail
  refine (hlow.out).mono ?_
  rintro e w1 ⟨rfl, hb1⟩
  have hcv := Lib.run_convert_string_bytes (P := Try.prog) w1 9 34 5 S Try.underlying9 Try.underlying34 Try.underlying5
  have hbr := Br.conv w1 5 S
  have hbl : Below w.heap.size w (Lib.bytesWorld w1 5 S) := below_then hb1 hb1.size (conv_below w1 5 S)
  have hge : w.heap.size ≤ w1.heap.size := hb1.size
  obtain ⟨c, hc⟩ : ∃ c, grownCap w1 S.size 0 5 = c := ⟨_, rfl⟩
  rw [hc, HSZ.out] at hcv
  clear hc
  rw [hns.out] at hbr
  obtain ⟨W, hW⟩ : ∃ W, Lib.bytesWorld w1 5 S = W := ⟨_, rfl⟩
  rw [hW] at hcv hbr hbl
  obtain ⟨g, hg⟩ : ∃ g, w1.heap.size = g := ⟨_, rfl⟩
  rw [hg] at hcv hbr hge
  have HB := Lib.hid hbr
  have HL := Lib.hid hbl
  clear hW hg hbr hbl hb1
  go_wp2
  go_loopw [4] (fun i wr => ∃ (k : Nat) (out rest : List Int), i = .int .i64 k ∧ (k = out.length ∨ (k = out.length + 1 ∧ rest = [])) ∧ Hid (out.length + rest.length = n) ∧ Hid (∀ x ∈ rest, (0 ≤ x ∧ x ≤ 255) ∧ lo x = x) ∧ Hid (res = if k = 0 then nk rest else out ++ nkTail rest) ∧ Hid (Br wr 5 g (out ++ rest)) ∧ Hid (Below w.heap.size w wr)) (fun i _ => n + 1 - (intOf i).toNat)
  case atStart => exact ⟨0, [], L, rfl, .inl rfl, Lib.hid (by rw [List.length_nil, Nat.zero_add]; exact hlen.out), hL, Lib.hid (by rw [if_pos rfl]; exact hnk.out), HB, HL⟩
  case round =>
    obtain ⟨k, out, rest, rfl, hk, Hlen, Hr, Hnk, HBr, HO⟩ := hrel
    cases rest with
    | nil =>
      have hge2 : n ≤ k := by have := Hlen.out; simp only [List.length_nil] at this; omega
      have hfin : Hid (res = out ++ []) := Lib.hid (by
        have := Hnk.out
        rcases hk with hk | ⟨hk, _⟩
        · by_cases h0 : k = 0
          · rw [if_pos h0] at this
            have ho : out = [] := List.eq_nil_of_length_eq_zero (by omega)
            rw [this, ho]; rfl
          · rw [if_neg h0] at this; exact this
        · rw [if_neg (by omega)] at this; exact this)
      have hlo : Hid ((out ++ ([] : List Int)).length = n) := Lib.hid (by rw [List.length_append]; exact Hlen.out)
      have htx := HBr.out.text (P := Try.prog) (src := 34) (dst := 9) Try.underlying34 Try.underlying5 Try.underlying9 c
      rw [hlo.out] at htx
      clear hk Hr Hnk Hlen
      go_wp2
      go_ret
      exact ⟨by rw [hfin.out, List.append_nil]; rfl, HO.out⟩
    | cons x rest =>
      have hko : k = out.length := by
        rcases hk with hk | ⟨_, hk⟩
        · exact hk
        · cases hk
      have hlt : k < n := by have := Hlen.out; simp only [List.length_cons] at this; omega
      have hin : k < (out ++ x :: rest).length := by rw [List.length_append, List.length_cons]; omega
      have hcell := HBr.out.cell k hin
      have hfree := HBr.out.free k hin
      rw [hko, getD_mid, ← hko] at hcell
      have hx := (Hr.out x (by simp)).1
      have hxl := Lib.hid (Hr.out x (by simp)).2
      have Hko := Lib.hid hko
      have hr1 : Hid (∀ z ∈ rest, (0 ≤ z ∧ z ≤ 255) ∧ lo z = z) := Lib.hid (fun z hz => Hr.out z (List.mem_cons_of_mem _ hz))
      clear hk hko hin
      by_cases h0 : k = 0
      · subst h0
        have ho : out = [] := List.eq_nil_of_length_eq_zero Hko.out.symm
        subst ho
        have hnk1 : Hid (res = [up x] ++ nkTail rest) := Lib.hid (by have := Hnk.out; rw [if_pos rfl] at this; exact this)
        have hl1 : Hid ([up x].length + rest.length = n) := Lib.hid (by have := Hlen.out; simp only [List.length_cons, List.length_nil] at this ⊢; omega)
        by_cases c1 : 97 ≤ x
        · by_cases c2 : x ≤ 122
          · have hu : up x = x - 32 := if_pos ⟨c1, c2⟩
            have hset : Hid (Br (wr.setCell ⟨g, 0, none⟩ (.int .u8 (x - 32))) 5 g ([up x] ++ rest)) := Lib.hid (by
              have h := HBr.out.set 0 (x - 32)
              rw [hu]
              exact h)
            have hO1 : Hid (Below w.heap.size w (wr.setCell ⟨g, 0, none⟩ (.int .u8 (x - 32)))) := Lib.hid (HO.out.setCell (p := ⟨g, 0, none⟩) hge _)
            clear hu
            go_wp2
            go_roundw
            case rel => exact ⟨1, [up x], rest, rfl, .inl rfl, hl1, hr1, Lib.hid (by rw [if_neg (by decide)]; exact hnk1.out), hset, hO1⟩
            case measure => simp [intOf] <;> omega
          · have hu : Hid (up x = x) := Lib.hid (if_neg (by omega))
            go_wp2
            go_roundw
            case rel => exact ⟨1, [up x], rest, rfl, .inl rfl, hl1, hr1, Lib.hid (by rw [if_neg (by decide)]; exact hnk1.out), Lib.hid (by rw [hu.out]; exact HBr.out), HO⟩
            case measure => simp [intOf] <;> omega
        · have hu : Hid (up x = x) := Lib.hid (if_neg (by omega))
          go_wp2
          go_roundw
          case rel => exact ⟨1, [up x], rest, rfl, .inl rfl, hl1, hr1, Lib.hid (by rw [if_neg (by decide)]; exact hnk1.out), Lib.hid (by rw [hu.out]; exact HBr.out), HO⟩
          case measure => simp [intOf] <;> omega
      · have hkpos : 0 < k := by omega
        have hnk1 : Hid (res = out ++ nkTail (x :: rest)) := Lib.hid (by have := Hnk.out; rw [if_neg h0] at this; exact this)
        clear h0
        by_cases h45 : x = 45
        · subst h45
          cases rest with
          | nil =>
            have hk1 : n ≤ k + 1 := by have h1 := Hlen.out; have h2 := Hko.out; simp only [List.length_cons, List.length_nil] at h1; omega
            have hend : Hid (res = (out ++ [45]) ++ nkTail []) := Lib.hid (by rw [hnk1.out, nkTail_hyp1]; simp only [nkTail, List.append_nil])
            have hl1 : Hid ((out ++ [(45 : Int)]).length + ([] : List Int).length = n) := Lib.hid (by have := Hlen.out; simp only [List.length_append, List.length_cons, List.length_nil] at this ⊢; omega)
            clear hfree hx
            go_wp2
            go_roundw
            case rel => exact ⟨k + 1 + 1, out ++ [45], [], by go_num, .inr ⟨by rw [List.length_append, ← Hko.out]; rfl, rfl⟩, hl1, Lib.hid (by simp), Lib.hid (by rw [if_neg (by omega)]; exact hend.out), Lib.hid (by rw [List.append_nil]; exact HBr.out), HO⟩
            case measure => simp [intOf]; omega
          | cons y rest =>
            have hk1 : k + 1 < n := by have h1 := Hlen.out; have h2 := Hko.out; simp only [List.length_cons] at h1; omega
            have hy := (hr1.out y (by simp)).1
            have e1 : out ++ 45 :: y :: rest = (out ++ [45]) ++ y :: rest := by simp
            have hol : (out ++ [(45 : Int)]).length = k + 1 := by rw [List.length_append, ← Hko.out]; rfl
            have HB1 : Br wr 5 g ((out ++ [45]) ++ y :: rest) := by rw [← e1]; exact HBr.out
            have hin1 : k + 1 < ((out ++ [(45 : Int)]) ++ y :: rest).length := by rw [List.length_append, List.length_cons, hol]; omega
            have hcell1 := HB1.cell (k + 1) hin1
            have hfree1 := HB1.free (k + 1) hin1
            rw [← hol, getD_mid, hol] at hcell1
            have hend : Hid (res = (out ++ [45] ++ [up y]) ++ nkTail rest) := Lib.hid (by rw [hnk1.out, nkTail_hyp]; simp)
            have hl1 : Hid ((out ++ [(45 : Int)] ++ [up y]).length + rest.length = n) := Lib.hid (by have := Hlen.out; simp only [List.length_append, List.length_cons, List.length_nil] at this ⊢; omega)
            have hr2 : Hid (∀ z ∈ rest, (0 ≤ z ∧ z ≤ 255) ∧ lo z = z) := Lib.hid (fun z hz => hr1.out z (List.mem_cons_of_mem _ hz))
            have hko1 : Hid (k + 1 + 1 = (out ++ [(45 : Int)] ++ [up y]).length) := Lib.hid (by rw [List.length_append, hol]; rfl)
            have hsame : Hid (up y = y → Br wr 5 g ((out ++ [45] ++ [up y]) ++ rest)) := Lib.hid (fun hu => by rw [hu, ← set_same]; exact HB1)
            have hset : Hid (∀ v, Br (wr.setCell ⟨g, k + 1, none⟩ (.int .u8 v)) 5 g ((out ++ [45] ++ [v]) ++ rest)) := Lib.hid (fun v => by
              have h := HB1.set (k + 1) v
              rw [← hol, set_mid, hol] at h
              exact h)
            clear e1 hol HB1 hin1 hfree hx
            by_cases c1 : 97 ≤ y
            · by_cases c2 : y ≤ 122
              · have hu : Hid (up y = y - 32) := Lib.hid (if_pos ⟨c1, c2⟩)
                have hO1 : Hid (Below w.heap.size w (wr.setCell ⟨g, k + 1, none⟩ (.int .u8 (y - 32)))) := Lib.hid (HO.out.setCell (p := ⟨g, k + 1, none⟩) hge _)
                go_wp2
                go_roundw
                case rel => exact ⟨k + 1 + 1, out ++ [45] ++ [up y], rest, by go_num, .inl hko1.out, hl1, hr2, Lib.hid (by rw [if_neg (by omega)]; exact hend.out), Lib.hid (by rw [hu.out]; exact hset.out _), hO1⟩
                case measure => simp [intOf]; omega
              · have hu : Hid (up y = y) := Lib.hid (if_neg (by omega))
                go_wp2
                go_roundw
                case rel => exact ⟨k + 1 + 1, out ++ [45] ++ [up y], rest, by go_num, .inl hko1.out, hl1, hr2, Lib.hid (by rw [if_neg (by omega)]; exact hend.out), Lib.hid (hsame.out hu.out), HO⟩
                case measure => simp [intOf]; omega
            · have hu : Hid (up y = y) := Lib.hid (if_neg (by omega))
              go_wp2
              go_roundw
              case rel => exact ⟨k + 1 + 1, out ++ [45] ++ [up y], rest, by go_num, .inl hko1.out, hl1, hr2, Lib.hid (by rw [if_neg (by omega)]; exact hend.out), Lib.hid (hsame.out hu.out), HO⟩
              case measure => simp [intOf]; omega
        · have h45b : (x != 45) = true := bne_iff_ne.2 h45
          have hend : Hid (res = (out ++ [x]) ++ nkTail rest) := Lib.hid (by rw [hnk1.out, nkTail_other x rest h45, hxl.out]; simp)
          have hl1 : Hid ((out ++ [x]).length + rest.length = n) := Lib.hid (by have := Hlen.out; simp only [List.length_append, List.length_cons, List.length_nil] at this ⊢; omega)
          have hko1 : Hid (k + 1 = (out ++ [x]).length) := Lib.hid (by rw [List.length_append, ← Hko.out]; rfl)
          clear h45
          go_wp2
          go_roundw
          case rel => exact ⟨k + 1, out ++ [x], rest, by go_num, .inl hko1.out, hl1, hr1, Lib.hid (by rw [if_neg (by omega)]; exact hend.out), Lib.hid (by rw [← set_same]; exact HBr.out), HO⟩
          case measure => simp [intOf]; omega
theorem laws_normal.calls (a0 : ByteArray) (r : ByteArray) (w : World) (h : laws_normal.f a0 = some r) :
    Calls Try.prog 36 #[.string a0] w fun e w' => e = .returned (.string r) ∧ Below w.heap.size w w' := by
  unfold laws_normal.f at h
  by_cases hbd : a0.size ≤ 4611686018427387904
  · rw [if_pos hbd] at h
    obtain rfl : strOfNums (nk (ns a0)) = r := Option.some.inj h
    exact normal_calls a0 w hbd
  · rw [if_neg hbd] at h
    cases h
end Go.Proofs.Ytdfeojkombmiaaa.Given
