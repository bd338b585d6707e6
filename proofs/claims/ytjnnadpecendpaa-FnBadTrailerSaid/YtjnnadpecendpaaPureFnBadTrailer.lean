/- The law FnBadTrailer answers true at every key: which keys may not be trailers hangs on no letter's case. No condition beyond the row's own. -/
import Derived.Test.YtjnnadpecendpaaQA10
import Derived.Test.YtjnnadpecendpaaLBad
import Derived.Test.YtjnnadpecendpaaLNameOne
import Derived.Test.YtjnnadpecendpaaLShort
namespace Go.Proofs.Ytjnnadpecendpaa.Pure
open Go.RowKit Go.Proofs.Ytjnnadpecendpaa.QA Go.Proofs.YtjnnadpecendpaaW.PrintWords Go.Proofs.YtjnnadpecendpaaW.PrintLast Go.Proofs.Ytjnnadpecendpaa.Base Go.Proofs.Ytjnnadpecendpaa.Given Go.Proofs.Ytjnnadpecendpaa.Gv

/-- The keys that 'forbidden' names. -/
def forbL : List (List Int) := [[99, 111, 110, 116, 101, 110, 116, 45, 108, 101, 110, 103, 116, 104], [116, 114, 97, 110, 115, 102, 101, 114, 45, 101, 110, 99, 111, 100, 105, 110, 103], [104, 111, 115, 116], [116, 114, 97, 105, 108, 101, 114], [99, 111, 110, 116, 101, 110, 116, 45, 116, 121, 112, 101], [99, 111, 110, 116, 101, 110, 116, 45, 101, 110, 99, 111, 100, 105, 110, 103], [99, 111, 110, 116, 101, 110, 116, 45, 114, 97, 110, 103, 101], [97, 117, 116, 104, 111, 114, 105, 122, 97, 116, 105, 111, 110]]
def forbOf (s : ByteArray) : Bool := forbL.any fun c => decide ((ns s).map lo = c)
theorem low_is (s : ByteArray) (h : s.size ≤ 4611686018427387904) : laws_low.f s = some (strOfNums ((ns s).map lo)) := if_pos h
theorem lo_row (s : ByteArray) : ∀ x ∈ (ns s).map lo, 0 ≤ x ∧ x ≤ 255 := fun x hx => by
  obtain ⟨y, hy, rfl⟩ := List.mem_map.1 hx
  exact lo_range (ns_range s y hy)
theorem lit_is (t : ByteArray) (c : List UInt8) : t.toList = c ↔ ns t = c.map fun x => (x.toNat : Int) := by
  have hf : ∀ x y : UInt8, (x.toNat : Int) = (y.toNat : Int) → x = y := fun x y e => UInt8.toNat_inj.1 (by omega)
  rw [Lib.toList_data]
  exact ⟨fun e => by rw [← e]; rfl, fun e => (List.map_inj_right hf).1 e⟩
theorem or_step {t : ByteArray} {c : List UInt8} {m d : List Int} {X : Option Bool} {b : Bool} (e : ns t = m) (hc : (c.map fun x => (x.toNat : Int)) = d) (h : X = some b) : (if t.toList = c then some true else X) = some (decide (m = d) || b) := by
  by_cases hk : t.toList = c
  · rw [if_pos hk, decide_eq_true (by rw [← e, ← hc]; exact (lit_is t c).1 hk)]; rfl
  · rw [if_neg hk, decide_eq_false (fun g => hk ((lit_is t c).2 (by rw [e, g, hc]))), h]; rfl
theorem forb_is (s : ByteArray) (h : s.size ≤ 4611686018427387904) : laws_forbidden.f s = some (forbOf s) := by
  unfold laws_forbidden.f
  rw [low_is s h, Option.bind_some]
  have e := ns_strOfNums (lo_row s)
  exact or_step e (by decide) (or_step e (by decide) (or_step e (by decide) (or_step e (by decide) (or_step e (by decide) (or_step e (by decide) (or_step e (by decide) (or_step e (by decide) rfl)))))))
theorem bad_impl (s : ByteArray) (h0 : 1 ≤ s.size) (hs : s.size ≤ 140737488351232) : Ev (fun k => impl_BadTrailer.f k s) (badM ((ns s).map o32), true) := by
  have e : ∀ k, impl_BadTrailer.f k s = (hertzproto_IsBadTrailer.f k (ns s)).bind fun t => some (t, true) := fun k => if_pos (by omega)
  exact Ev.congr e (Ev.bind (bad_ends (ns s) (by rw [ns_length]; omega) (by rw [ns_length]; omega)) (Ev.now _))
theorem forb_bad (s : ByteArray) (h : forbOf s = true) : badM ((ns s).map o32) = true := by
  unfold forbOf at h
  obtain ⟨c, hc, e⟩ := List.any_eq_true.1 h
  rw [← map_o32_lo (ns s) (fun x hx => ns_range s x hx), of_decide_eq_true e]
  have k : ∀ c ∈ forbL, badM (c.map o32) = true := by decide +kernel
  exact k c hc
theorem name_good (s : ByteArray) (h : isName s = true) : badM ((ns s).map o32) = false := by
  have h0 := (isName_mem h).1
  refine bad_x _ ?_
  unfold isName at h
  simp only [Bool.and_eq_true, decide_eq_true_eq] at h
  rw [← h.1.1.2, show bt s 0 = (ns s).getD 0 0 from bt_ns s 0]
  cases hn : ns s with
  | nil => have := ns_length s; rw [hn] at this; simp at this; omega
  | cons a t => rfl
theorem bad_is (s : ByteArray) (h : isName s = true ∨ forbOf s = true) : badM ((ns s).map o32) = forbOf s := by
  cases hf : forbOf s
  · rcases h with h | h
    · exact name_good s h
    · rw [h] at hf; cases hf
  · exact forb_bad s hf
theorem FnBadTrailer : laws_FnBadTrailer.Pure := by
  intro s hs
  refine Ev.rounds ?_
  unfold laws_FnBadTrailer.f
  have s2t : Ev (fun k => laws_FnBadTrailer.j2 k s true) true := Ev.step (f := fun _ => some true) (fun k => rfl) (Ev.now _)
  have s2 : 1 ≤ s.size → s.size ≤ 200 → (isName s = true ∨ forbOf s = true) → Ev (fun k => laws_FnBadTrailer.j2 k s false) true := by
    intro h1 h2 hk
    refine Ev.step (f := _) (fun k => by simp only [laws_FnBadTrailer.j2]; rw [if_neg (by simp)]) ?_
    have zl : (strOfNums ((ns s).map lo)).size = s.size := by rw [strOfNums_size, List.length_map, ns_length]
    refine Ev.bind (bad_impl s h1 hs) (Ev.call (low_is s (by omega)) (Ev.bind (bad_impl _ (by omega) (by omega)) (Ev.if_true rfl (Ev.if_true rfl (Ev.if_true ?_ (Ev.call (forb_is s (by omega)) (Ev.val ?_)))))))
    · rw [ns_strOfNums (lo_row s), map_o32_lo (ns s) (fun x hx => ns_range s x hx)]
      simp
    · rw [bad_is s hk]; simp
  have s1 : Ev (fun k => laws_FnBadTrailer.j1 k s false) true := by
    refine Ev.step (f := _) (fun k => by simp only [laws_FnBadTrailer.j1]; rw [if_neg (by simp)]) ?_
    refine Ev.ite (fun _ => s2t) (fun hne => ?_)
    have h1 : 1 ≤ s.size := by
      rcases Nat.eq_zero_or_pos s.size with h | h
      · exfalso; apply hne; rw [Lib.toList_data]
        have : s.data.toList.length = 0 := by rw [← Lib.size_eq]; exact h
        exact List.length_eq_zero_iff.1 this
      · exact h
    refine Ev.bind (short_ends [s] (by simp)) (Ev.ite (fun hsh => ?_) (fun _ => s2t))
    have h2 := (areShort_mem hsh).2 s (by simp)
    refine Ev.bind (name_ends s hs) (Ev.ite (fun hn => s2 h1 h2 (Or.inl hn)) (fun hn => ?_))
    refine Ev.call (forb_is s (by omega)) ?_
    cases hf : forbOf s
    · exact s2t
    · exact s2 h1 h2 (Or.inr hf)
  refine Ev.ite (fun _ => Ev.now _) (fun _ => ?_)
  have b1 := bad_impl ⟨#[67, 111, 110, 116, 101, 110, 116, 45, 76, 101, 110, 103, 116, 104]⟩ (by decide) (by decide)
  have b2 := bad_impl ⟨#[88, 45, 65]⟩ (by decide) (by decide)
  have v1 : badM ((ns (⟨#[67, 111, 110, 116, 101, 110, 116, 45, 76, 101, 110, 103, 116, 104]⟩ : ByteArray)).map o32) = true := by decide +kernel
  have v2 : badM ((ns (⟨#[88, 45, 65]⟩ : ByteArray)).map o32) = false := by decide +kernel
  rw [v1] at b1
  rw [v2] at b2
  refine Ev.bind b1 (Ev.if_true rfl ?_)
  refine Ev.step (f := _) (fun k => by simp only [laws_FnBadTrailer.j0]; rw [if_neg (by simp)]) ?_
  exact Ev.bind b2 (Ev.if_false (by simp) s1)
end Go.Proofs.Ytjnnadpecendpaa.Pure
