/- NormalizeHeaderKey: the key in memory is put into its normal form, in place; nothing else changes. -/
import Derived.Test.YtdfeojkombmiaaaGvRow
import Derived.Test.YtdfeojkombmiaaaGvNk
set_option linter.unusedVariables false
namespace Go.Proofs.Ytdfeojkombmiaaa.Gv
open Go.RowKit Go.Proofs.YtdfeojkombmiaaaW.PrintWords Go.Proofs.YtdfeojkombmiaaaW.PrintLast Go.Proofs.YtdfeojkombmiaaaW.PrintMore Go.Proofs.Ytdfeojkombmiaaa.Base

theorem getD_mid (out rest : List Int) (x : Int) : (out ++ x :: rest).getD out.length 0 = x := by
  rw [List.getD_eq_getElem?_getD, List.getElem?_append_right (Nat.le_refl _), Nat.sub_self]; rfl
theorem set_mid (out rest : List Int) (x v : Int) : (out ++ x :: rest).set out.length v = (out ++ [v]) ++ rest := by
  rw [List.set_append_right _ _ (Nat.le_refl _), Nat.sub_self, List.set_cons_zero, List.append_assoc]; rfl
set_option maxHeartbeats 4000000 in
set_option maxRecDepth 100000 in
theorem nhk_calls (w : World) (g n cap : Nat) (xs : List Int) (hn : xs.length = n) (hr : ∀ x ∈ xs, 0 ≤ x ∧ x ≤ 255) (hl : n ≤ 4611686018427387904) (hb : Br w 5 g xs) :
    Calls Try.prog 50 #[.slice (some ⟨g, 0, none⟩) n cap, .bool false] w fun e w' => e = .returned (.tuple #[]) ∧ Br w' 5 g (nk xs) ∧ Only g n w w' := by
  cases xs with
  | nil =>
    obtain rfl : n = 0 := by simpa using hn.symm
    clear hr hl hn
    have HB := Lib.hid hb
    clear hb
    go_enter Try.func50, Try.ntmps50
    go_wp2
    exact bodyPost_ret (results_none rfl _ _ _) rfl ⟨rfl, HB.out, Only.refl _ _ _⟩
  | cons a l =>
    have hcell : w.cell? ⟨g, 0, none⟩ = some (.int .u8 a) := hb.cell 0 (by simp)
    have hfree := hb.free 0 (by simp)
    have ha := hr a (by simp)
    have hset : Br (w.setCell ⟨g, 0, none⟩ (.int .u8 (up a))) 5 g ([up a] ++ l) := by
      have h := hb.set 0 (up a)
      simpa using h
    have honly : Only g n w (w.setCell ⟨g, 0, none⟩ (.int .u8 (up a))) := (Only.refl g n w).set 0 (by rw [← hn]; simp) _
    have hlen : Hid ([up a].length + l.length = n) := Lib.hid (by rw [← hn]; simp; omega)
    have hrl : Hid (∀ x ∈ l, 0 ≤ x ∧ x ≤ 255) := Lib.hid (fun x hx => hr x (List.mem_cons_of_mem _ hx))
    have hnk : Hid (nk (a :: l) = [up a] ++ nkTail l) := Lib.hid rfl
    have hpos : 1 ≤ n := by rw [← hn]; simp
    obtain ⟨res, hres⟩ : ∃ res, nk (a :: l) = res := ⟨_, rfl⟩
    have hnk' : Hid (res = [up a] ++ nkTail l) := Lib.hid (by rw [← hres]; exact hnk.out)
    rw [hres]
    have HSET := Lib.hid hset
    have HONLY := Lib.hid honly
    clear hset honly hb hr hnk hres hn
    have hne : ((n : Int) == 0) = false := beq_eq_false_iff_ne.2 (by omega)
    go_enter Try.func50, Try.ntmps50
    go_wp2_with (refine wpList_index_fn rfl 9 _ _ rfl _ _ .u8 rfl rfl Try.underlying9 ha.1 ha.2 up ?tb ?_; case tb => decide +kernel)
    go_loopw [5] (fun i wr => ∃ (k : Nat) (out rest : List Int), i = .int .i64 k ∧ (k = out.length ∨ (k = out.length + 1 ∧ rest = [])) ∧ Hid (out.length + rest.length = n) ∧ Hid (∀ x ∈ rest, 0 ≤ x ∧ x ≤ 255) ∧ Hid (res = out ++ nkTail rest) ∧ Hid (Br wr 5 g (out ++ rest)) ∧ Hid (Only g n w wr)) (fun i _ => n + 1 - (intOf i).toNat)
    case atStart => exact ⟨1, [up a], l, rfl, .inl rfl, hlen, hrl, hnk', HSET, HONLY⟩
    case round =>
      obtain ⟨k, out, rest, rfl, hk, Hlen, Hr, Hnk, HBr, HO⟩ := hrel
      cases rest with
      | nil =>
        have hge : n ≤ k := by have := Hlen.out; simp only [List.length_nil] at this; omega
        have hfin : Hid (res = out ++ []) := Lib.hid Hnk.out
        clear hk Hr Hnk Hlen
        go_wp2
        go_end0
        exact ⟨rfl, by rw [hfin.out]; exact HBr.out, HO.out⟩
      | cons x rest =>
        have hko : k = out.length := by
          rcases hk with hk | ⟨_, hk⟩
          · exact hk
          · cases hk
        have hlt : k < n := by have := Hlen.out; simp only [List.length_cons] at this; omega
        have hin : k < (out ++ x :: rest).length := by rw [List.length_append, List.length_cons]; omega
        have hcell := HBr.out.cell k hin
        have hfree := HBr.out.free k hin
        rw [hko, getD_mid, ← hko] at hcell
        have hx := Hr.out x (by simp)
        have Hko := Lib.hid hko
        clear hk hko hin
        by_cases h45 : x = 45
        · subst h45
          cases rest with
          | nil =>
            have hk1 : n ≤ k + 1 := by have h1 := Hlen.out; have h2 := Hko.out; simp only [List.length_cons, List.length_nil] at h1; omega
            have hend : Hid (res = (out ++ [45]) ++ nkTail []) := Lib.hid (by rw [Hnk.out, nkTail_hyp1]; simp only [nkTail, List.append_nil])
            have hl1 : Hid ((out ++ [(45 : Int)]).length + ([] : List Int).length = n) := Lib.hid (by have := Hlen.out; simp only [List.length_append, List.length_cons, List.length_nil] at this ⊢; omega)
            clear hfree hx
            go_wp2
            go_roundw
            case rel => exact ⟨k + 1 + 1, out ++ [45], [], by go_num, .inr ⟨by have := Hko.out; simp only [List.length_append, List.length_cons, List.length_nil]; omega, rfl⟩, hl1, Lib.hid (by simp), hend, Lib.hid (by rw [List.append_nil]; exact HBr.out), HO⟩
            case measure => simp [intOf]; omega
          | cons y rest =>
            have hk1 : k + 1 < n := by have h1 := Hlen.out; have h2 := Hko.out; simp only [List.length_cons] at h1; omega
            have hy := Hr.out y (by simp)
            have e1 : out ++ 45 :: y :: rest = (out ++ [45]) ++ y :: rest := by simp
            have hol : (out ++ [(45 : Int)]).length = k + 1 := by rw [List.length_append, ← Hko.out]; rfl
            have HB1 : Br wr 5 g ((out ++ [45]) ++ y :: rest) := by rw [← e1]; exact HBr.out
            have hin1 : k + 1 < ((out ++ [(45 : Int)]) ++ y :: rest).length := by rw [List.length_append, List.length_cons, hol]; omega
            have hcell1 := HB1.cell (k + 1) hin1
            have hfree1 := HB1.free (k + 1) hin1
            rw [← hol, getD_mid, hol] at hcell1
            have hset : Hid (Br (wr.setCell ⟨g, k + 1, none⟩ (.int .u8 (up y))) 5 g ((out ++ [45] ++ [up y]) ++ rest)) := Lib.hid (by
              have h := HB1.set (k + 1) (up y)
              rw [← hol, set_mid, hol] at h
              exact h)
            have hO1 : Hid (Only g n w (wr.setCell ⟨g, k + 1, none⟩ (.int .u8 (up y)))) := Lib.hid (HO.out.set (k + 1) hk1 _)
            have hend : Hid (res = (out ++ [45] ++ [up y]) ++ nkTail rest) := Lib.hid (by rw [Hnk.out, nkTail_hyp]; simp)
            have hl1 : Hid ((out ++ [(45 : Int)] ++ [up y]).length + rest.length = n) := Lib.hid (by have := Hlen.out; simp only [List.length_append, List.length_cons, List.length_nil] at this ⊢; omega)
            have hr1 : Hid (∀ z ∈ rest, 0 ≤ z ∧ z ≤ 255) := Lib.hid (fun z hz => Hr.out z (by simp [hz]))
            have hko1 : Hid (k + 1 + 1 = (out ++ [(45 : Int)] ++ [up y]).length) := Lib.hid (by have := Hko.out; simp only [List.length_append, List.length_cons, List.length_nil]; omega)
            clear e1 hol HB1 hin1 hfree hx
            go_wp2_with (refine wpList_index_fn rfl 9 _ _ rfl _ _ .u8 rfl rfl Try.underlying9 hy.1 hy.2 up ?tb ?_; case tb => decide +kernel)
            go_roundw
            case rel => exact ⟨k + 1 + 1, out ++ [45] ++ [up y], rest, by go_num, .inl hko1.out, hl1, hr1, hend, hset, hO1⟩
            case measure => simp [intOf]; omega
        · have h45b : (x == 45) = false := beq_eq_false_iff_ne.2 h45
          have hset : Hid (Br (wr.setCell ⟨g, k, none⟩ (.int .u8 (lo x))) 5 g ((out ++ [lo x]) ++ rest)) := Lib.hid (by
            have h := HBr.out.set k (lo x)
            rw [Hko.out, set_mid, ← Hko.out] at h
            exact h)
          have hO1 : Hid (Only g n w (wr.setCell ⟨g, k, none⟩ (.int .u8 (lo x)))) := Lib.hid (HO.out.set k hlt _)
          have hend : Hid (res = (out ++ [lo x]) ++ nkTail rest) := Lib.hid (by rw [Hnk.out, nkTail_other x rest h45]; simp)
          have hl1 : Hid ((out ++ [lo x]).length + rest.length = n) := Lib.hid (by have := Hlen.out; simp only [List.length_append, List.length_cons, List.length_nil] at this ⊢; omega)
          have hr1 : Hid (∀ z ∈ rest, 0 ≤ z ∧ z ≤ 255) := Lib.hid (fun z hz => Hr.out z (by simp [hz]))
          have hko1 : Hid (k + 1 = (out ++ [lo x]).length) := Lib.hid (by have := Hko.out; simp only [List.length_append, List.length_cons, List.length_nil]; omega)
          clear h45
          go_wp2_with (refine wpList_index_fn rfl 9 _ _ rfl _ _ .u8 rfl rfl Try.underlying9 hx.1 hx.2 lo ?tb ?_; case tb => decide +kernel)
          go_roundw
          case rel => exact ⟨k + 1, out ++ [lo x], rest, by go_num, .inl hko1.out, hl1, hr1, hend, hset, hO1⟩
          case measure => simp [intOf]; omega
end Go.Proofs.Ytdfeojkombmiaaa.Gv
