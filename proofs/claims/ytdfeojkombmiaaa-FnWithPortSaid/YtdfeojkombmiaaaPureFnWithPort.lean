/- The law FnWithPort answers true at every text, number and switch: a host gets a port, one that has a port keeps it. No condition beyond the row's own. -/
import Derived.Test.YtdfeojkombmiaaaQA41
import Derived.Test.YtdfeojkombmiaaaLWord
import Derived.Test.YtdfeojkombmiaaaLDec
namespace Go.Proofs.Ytdfeojkombmiaaa.Pure
open Go.RowKit Go.Proofs.Ytdfeojkombmiaaa.QA Go.Proofs.YtdfeojkombmiaaaW.PrintWords Go.Proofs.YtdfeojkombmiaaaW.PrintLast Go.Proofs.Ytdfeojkombmiaaa.Base Go.Proofs.Ytdfeojkombmiaaa.Given

theorem wp_is (s : ByteArray) (t : Bool) (h : s.size ≤ 4611686018427387904) : impl_WithPort.f s t = some (withPort s t) := by
  unfold impl_WithPort.f hertzutils_AddMissingPort.f
  rw [if_pos h]; rfl
theorem idx_none (l : List Int) (c : Int) (h : c ∉ l) : idx l c = -1 := by
  induction l with
  | nil => rfl
  | cons x l ih =>
    simp only [List.mem_cons, not_or] at h
    unfold idx
    rw [if_neg (fun e => h.1 e.symm), ih h.2, if_pos rfl]
theorem idx_some (l : List Int) (c : Int) (h : c ∈ l) : 0 ≤ idx l c := by
  induction l with
  | nil => simp at h
  | cons x l ih =>
    unfold idx
    by_cases e : x = c
    · rw [if_pos e]; decide
    · rw [if_neg e]
      rcases List.mem_cons.1 h with h1 | h1
      · exact absurd h1.symm e
      · have := ih h1
        split <;> omega
theorem wp_keeps (s : ByteArray) (t : Bool) (h : s.size ≤ 4611686018427387904) (h58 : (58 : Int) ∈ ns s) (h93 : (93 : Int) ∉ ns s) : impl_WithPort.f s t = some s := by
  rw [wp_is s t h]
  unfold withPort
  have h1 : 1 ≤ s.size := by rw [← ns_length]; exact List.length_pos_of_mem h58
  have h2 : (-1 : Int) < (s.size : Int) - 1 := by omega
  rw [idx_none _ _ h93, if_pos ⟨idx_some _ _ h58, h2⟩]
theorem wp_adds (s : ByteArray) (t : Bool) (h : s.size ≤ 4611686018427387904) (h58 : (58 : Int) ∉ ns s) : impl_WithPort.f s t = some (s ++ if t then p443 else p80) := by
  rw [wp_is s t h]
  unfold withPort
  rw [idx_none _ _ h58, if_neg (fun e => absurd e.1 (by decide))]
theorem word_not (s : ByteArray) (h : isWord s = true) (c : Int) (hc : wB c = false) : c ∉ ns s := by
  unfold isWord at h
  simp only [Bool.and_eq_true, List.all_eq_true] at h
  intro hm
  have := h.1 c hm
  rw [hc] at this
  cases this
theorem FnWithPort : laws_FnWithPort.Pure := by
  intro a port tls ha hp
  have hp2 := wf_i64 hp
  refine Ev.rounds ?_
  simp only [laws_FnWithPort.f]
  refine Ev.ite (fun _ => Ev.now _) (fun _ => ?_)
  refine Ev.call (wp_is _ _ (by decide)) (Ev.if_true (by decide +kernel) ?_)
  refine Ev.bind (words_ends [a] (by simp) (by simp; omega)) ?_
  have s0 : Ev (fun k => laws_FnWithPort.j0 k a port tls true) true := Ev.step (f := fun _ => some true) (fun k => rfl) (Ev.now _)
  have e58 : ns (⟨#[58]⟩ : ByteArray) = [58] := by decide
  have e80 : ns p80 = [58, 56, 48] := by decide
  have e443 : ns p443 = [58, 52, 52, 51] := by decide
  refine Ev.ite (fun hw => ?_) (fun _ => s0)
  obtain ⟨wa, sa⟩ := (areWords_mem hw).2 a (by simp)
  have n58 := word_not a wa 58 (by decide)
  have n93 := word_not a wa 93 (by decide)
  have s1 : 1 ≤ port → port ≤ 65535 → ∀ x : ByteArray, x = (a ++ if tls then p443 else p80) → Ev (fun k => laws_FnWithPort.j1 k a port tls x) true := by
    intro h1 h2 x hx
    obtain ⟨n, rfl⟩ := Int.eq_ofNat_of_zero_le (by omega : 0 ≤ port)
    refine Ev.step (f := _) (fun k => by simp only [laws_FnWithPort.j1]; exact rfl) ?_
    have z1 : (a ++ (⟨#[58]⟩ : ByteArray)).size = a.size + 1 := by rw [ByteArray.size_append]; rfl
    have hd := decN_len n (by omega)
    have zd : (strOfNums (decN n)).size ≤ 19 := by rw [strOfNums_size]; exact hd
    refine Ev.if_true (by omega) (Ev.bind (dec_ends n (by omega)) (Ev.if_true (by omega) ?_))
    refine Ev.call (wp_adds a tls (by omega) n58) (Ev.if_true (by rw [hx]) ?_)
    have zz : ((a ++ (⟨#[58]⟩ : ByteArray)) ++ strOfNums (decN n)).size ≤ 4611686018427387904 := by rw [ByteArray.size_append, z1]; omega
    refine Ev.call (wp_keeps _ tls zz ?_ ?_) (Ev.if_true rfl ?_)
    · rw [ns_append, ns_append, e58]; simp
    · rw [ns_append, ns_append, e58, ns_strOfNums (decN_range n)]
      intro hm
      rcases List.mem_append.1 hm with h | h
      · rcases List.mem_append.1 h with h | h
        · exact n93 h
        · simp at h
      · have := decN_digits n _ h; omega
    have zx : x.size ≤ 4611686018427387904 := by
      rw [hx, ByteArray.size_append]
      cases tls
      · show a.size + 3 ≤ _; omega
      · show a.size + 4 ≤ _; omega
    refine Ev.call (wp_keeps x tls zx ?_ ?_) (Ev.val (by rw [beq_iff_eq]))
    · rw [hx, ns_append]
      cases tls
      · rw [if_neg (by decide), e80]; simp
      · rw [if_pos rfl, e443]; simp
    · rw [hx, ns_append]
      cases tls
      · rw [if_neg (by decide), e80]; simp [n93]
      · rw [if_pos rfl, e443]; simp [n93]
  refine Ev.ite (fun _ => s0) (fun h1 => ?_)
  by_cases h2 : port > 65535
  · rw [decide_eq_true h2]; exact s0
  · rw [decide_eq_false h2]
    refine Ev.step (f := _) (fun k => by simp only [laws_FnWithPort.j0]; rw [if_neg (by simp)]) ?_
    refine Ev.if_true (by omega) (Ev.ite (fun ht => Ev.if_true (by omega) (s1 (by omega) (by omega) _ (by rw [ht, if_pos rfl]; rfl))) (fun ht => s1 (by omega) (by omega) _ ?_))
    simp only [Bool.not_eq_true] at ht
    rw [ht, if_neg (by decide)]; rfl
end Go.Proofs.Ytdfeojkombmiaaa.Pure
