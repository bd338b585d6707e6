/- The law FnTypeAhead answers true at every two texts and a switch: a content type without its parameters is what stands ahead of the first semicolon or blank. No condition beyond the row's own. -/
import Derived.Test.YtdfeojkombmiaaaQA39
import Derived.Test.YtdfeojkombmiaaaLWord
import Derived.Test.YtdfeojkombmiaaaLShort
namespace Go.Proofs.Ytdfeojkombmiaaa.Pure
open Go.RowKit Go.Proofs.Ytdfeojkombmiaaa.QA Go.Proofs.YtdfeojkombmiaaaW.PrintWords Go.Proofs.YtdfeojkombmiaaaW.PrintLast Go.Proofs.Ytdfeojkombmiaaa.Base Go.Proofs.Ytdfeojkombmiaaa.Given

theorem ta_is (s : ByteArray) : impl_TypeAhead.f s = some (s.extract 0 (typeLen s)) := rfl
theorem ta_word (s : ByteArray) (h : isWord s = true) : impl_TypeAhead.f s = some s := by
  have h1 : typeLen s = s.size := typeLen_is s s.size (Nat.le_refl _) (fun j hj => by
    have := wB_ne ((isWord_at h).2 j hj)
    exact ⟨this.1, this.2.2.2.2.2.2.2.1⟩) (fun hl => absurd hl (Nat.lt_irrefl _))
  rw [ta_is, h1]
  congr 1
  refine ns_inj ?_
  rw [ns_extract, List.drop_zero, Nat.sub_zero, ← ns_length, List.take_length]
theorem ta_cut (s p r : ByteArray) (c : Int) (hc : c = 32 ∨ c = 59) (hp : ns p = [c]) (h : isWord s = true) :
    impl_TypeAhead.f ((s ++ (⟨#[47]⟩ : ByteArray) ++ s ++ p) ++ r) = some (s ++ (⟨#[47]⟩ : ByteArray) ++ s) := by
  obtain ⟨x, hx⟩ : ∃ x, s ++ (⟨#[47]⟩ : ByteArray) ++ s = x := ⟨_, rfl⟩
  have hw := (isWord_at h).2
  have hxs : ∀ y ∈ ns x, y ≠ 32 ∧ y ≠ 59 := by
    intro y hy
    rw [← hx, ns_append, ns_append] at hy
    have hsw : ∀ y ∈ ns s, y ≠ 32 ∧ y ≠ 59 := by
      intro y hy
      unfold isWord at h
      simp only [Bool.and_eq_true, List.all_eq_true] at h
      have := wB_ne (h.1 y hy)
      exact ⟨this.1, this.2.2.2.2.2.2.2.1⟩
    rcases List.mem_append.1 hy with h1 | h1
    · rcases List.mem_append.1 h1 with h2 | h2
      · exact hsw y h2
      · have e47 : ns (⟨#[47]⟩ : ByteArray) = [47] := by decide
        rw [e47] at h2
        simp only [List.mem_singleton] at h2
        omega
    · exact hsw y h1
  have hns : ns (x ++ p ++ r) = ns x ++ c :: ns r := by rw [ns_append, ns_append, hp]; simp
  rw [hx]
  have hps : p.size = 1 := by rw [← ns_length, hp]; rfl
  have hsz : (x ++ p ++ r).size = x.size + 1 + r.size := by rw [ByteArray.size_append, ByteArray.size_append, hps]
  have h1 : typeLen (x ++ p ++ r) = x.size := typeLen_is _ x.size (by omega) (fun j hj => by
    have hlt : j < (ns x).length := by rw [ns_length]; exact hj
    rw [bt_ns, hns, List.getD_eq_getElem?_getD, List.getElem?_append_left hlt, List.getElem?_eq_getElem hlt]
    exact hxs _ (List.getElem_mem hlt)) (fun _ => by
    rw [bt_ns, hns, List.getD_eq_getElem?_getD, List.getElem?_append_right (by rw [ns_length]; exact Nat.le_refl _), ns_length, Nat.sub_self]
    exact hc)
  rw [ta_is, h1]
  congr 1
  refine ns_inj ?_
  rw [ns_extract, List.drop_zero, Nat.sub_zero, hns, ← ns_length, List.take_left]
theorem FnTypeAhead : laws_FnTypeAhead.Pure := by
  intro a b blank ha hb
  refine Ev.rounds ?_
  simp only [laws_FnTypeAhead.f]
  have s0 : Ev (fun k => laws_FnTypeAhead.j0 k a b blank true) true := Ev.step (f := fun _ => some true) (fun k => rfl) (Ev.now _)
  have t1 : ∀ (x : ByteArray), isWord x = true → x.toList = x.toList := fun _ _ => rfl
  have s1 : isWord a = true → Ev (fun k => laws_FnTypeAhead.j1 k a b blank false) true := by
    intro hw
    refine Ev.step (f := _) (fun k => by simp only [laws_FnTypeAhead.j1]; rw [if_neg (by simp)]) ?_
    have z1 : (a ++ (⟨#[47]⟩ : ByteArray)).size = a.size + 1 := by rw [ByteArray.size_append]; rfl
    have z2 : ((a ++ (⟨#[47]⟩ : ByteArray)) ++ a).size = 2 * a.size + 1 := by rw [ByteArray.size_append, z1]; omega
    refine Ev.ite (fun _ => ?_) (fun _ => ?_)
    · have z3 : (((a ++ (⟨#[47]⟩ : ByteArray)) ++ a) ++ (⟨#[32]⟩ : ByteArray)).size = 2 * a.size + 2 := by rw [ByteArray.size_append, z2]; rfl
      refine Ev.if_true (by omega) (Ev.if_true (by omega) (Ev.if_true (by omega) (Ev.if_true (by omega) ?_)))
      refine Ev.call (ta_cut a (⟨#[32]⟩ : ByteArray) b 32 (.inl rfl) (by decide) hw) (Ev.if_true rfl (Ev.call (ta_word a hw) (Ev.val ?_)))
      rw [beq_iff_eq]
    · have z3 : (((a ++ (⟨#[47]⟩ : ByteArray)) ++ a) ++ (⟨#[59]⟩ : ByteArray)).size = 2 * a.size + 2 := by rw [ByteArray.size_append, z2]; rfl
      refine Ev.if_true (by omega) (Ev.if_true (by omega) (Ev.if_true (by omega) (Ev.if_true (by omega) ?_)))
      refine Ev.call (ta_cut a (⟨#[59]⟩ : ByteArray) b 59 (.inr rfl) (by decide) hw) (Ev.if_true rfl (Ev.call (ta_word a hw) (Ev.val ?_)))
      rw [beq_iff_eq]
  have s1t : Ev (fun k => laws_FnTypeAhead.j1 k a b blank true) true := Ev.step (f := fun _ => some true) (fun k => rfl) (Ev.now _)
  have s0' : Ev (fun k => laws_FnTypeAhead.j0 k a b blank false) true := by
    refine Ev.step (f := _) (fun k => by simp only [laws_FnTypeAhead.j0]; rw [if_neg (by simp)]) ?_
    refine Ev.call (ta_is _) (Ev.if_true (by decide +kernel) ?_)
    refine Ev.bind (words_ends [a] (by simp) (by simp; omega)) ?_
    refine Ev.ite (fun hw => ?_) (fun _ => s1t)
    have wa := ((areWords_mem hw).2 a (by simp)).1
    refine Ev.bind (short_ends [b] (by simp)) ?_
    cases areShort [b]
    · exact s1t
    · exact s1 wa
  refine Ev.ite (fun _ => s0) (fun _ => ?_)
  cases decide ((b.size : Int) > 2147483647)
  · exact s0'
  · exact s0
end Go.Proofs.Ytdfeojkombmiaaa.Pure
