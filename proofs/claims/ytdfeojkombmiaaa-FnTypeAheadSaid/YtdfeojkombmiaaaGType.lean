/- FilterContentType tells what stands ahead of the first blank or semicolon of a text, whatever its bytes. -/
import Derived.Test.YtdfeojkombmiaaaGvBase
set_option linter.unusedVariables false
namespace Go.Proofs.Ytdfeojkombmiaaa.Given
open Go.RowKit Go.Proofs.YtdfeojkombmiaaaW.PrintWords Go.Proofs.YtdfeojkombmiaaaW.PrintLast Go.Proofs.YtdfeojkombmiaaaW.PrintMore Go.Proofs.Ytdfeojkombmiaaa.Base Go.Proofs.Ytdfeojkombmiaaa.Gv

/-- How many bytes stand ahead of the first blank or semicolon. -/
def typeLen (s : ByteArray) : Nat := ((ns s).takeWhile fun x => decide (x ≠ 32) && decide (x ≠ 59)).length
def hertzutils_FilterContentType.f (a0 : ByteArray) : Option ByteArray := some (a0.extract 0 (typeLen a0))
theorem takeWhile_len {α : Type} (p : α → Bool) (l : List α) (n : Nat) (hn : n ≤ l.length) (h : ∀ j x, j < n → l[j]? = some x → p x = true) (he : ∀ x, l[n]? = some x → p x = false) : (l.takeWhile p).length = n := by
  induction l generalizing n with
  | nil => simp at hn; simp [hn]
  | cons a l ih =>
    cases n with
    | zero => simp [he a rfl]
    | succ n =>
      have ha := h 0 a (by omega) rfl
      simp only [List.takeWhile_cons, ha, if_true, List.length_cons]
      rw [ih n (by simpa using hn) (fun j x hj hx => h (j + 1) x (by omega) (by simpa using hx)) (fun x hx => he x (by simpa using hx))]
theorem typeLen_is (s : ByteArray) (n : Nat) (hn : n ≤ s.size) (h : ∀ j : Nat, j < n → bt s (j : Int) ≠ 32 ∧ bt s (j : Int) ≠ 59) (he : n < s.size → bt s (n : Int) = 32 ∨ bt s (n : Int) = 59) : typeLen s = n := by
  refine takeWhile_len _ _ n (by rw [ns_length]; exact hn) (fun j x hj hx => ?_) (fun x hx => ?_)
  · have := h j hj
    rw [bt_ns, List.getD_eq_getElem?_getD, hx] at this
    simpa using this
  · have hlt : n < s.size := by rw [← ns_length]; exact (List.getElem?_eq_some_iff.1 hx).1
    have := he hlt
    rw [bt_ns, List.getD_eq_getElem?_getD, hx] at this
    rcases this with h1 | h1 <;> simp at h1 <;> simp [h1]
set_option maxHeartbeats 1000000 in
theorem hertzutils_FilterContentType.calls (a0 : ByteArray) (r : ByteArray) (w : World) (h : hertzutils_FilterContentType.f a0 = some r) :
    Calls Try.prog 40 #[.string a0] w fun e w' => e = .returned (.string r) ∧ Below w.heap.size w w' := by
  obtain rfl : a0.extract 0 (typeLen a0) = r := Option.some.inj h
  clear h
  go_enter Try.func40, Try.ntmps40
  go_wp2
  go_loopw [3] (fun _ w' => ∃ pos : Nat, w' = w.iter a0 pos ∧ pos ≤ a0.size ∧ ∀ j : Nat, j < pos → bt a0 (j : Int) ≠ 32 ∧ bt a0 (j : Int) ≠ 59) (fun _ w' => a0.size - w'.iterPos w.heap.size)
  case atStart => exact ⟨0, rfl, by omega, fun j hj => by omega⟩
  case round =>
    obtain ⟨pos, rfl, hpos, hall⟩ := hrel
    have HALL := Lib.hid hall
    clear hall
    by_cases hp : pos < a0.size
    · have hnx : ∀ ty, (Instr.next (.pointer (some ⟨w.heap.size, 0, none⟩)) true ty).run Try.prog (w.iter a0 pos) = _ := fun ty => run_next_any w a0 pos ty hp
      have h32 := rune_is a0 pos hp 32 (by decide)
      have h59 := rune_is a0 pos hp 59 (by decide)
      have hwd := width_pos a0 pos hp
      have hct := conts a0 pos
      have HCT := Lib.hid hct
      clear hct
      by_cases c32 : bt a0 (pos : Int) = 32
      · have t32 : (((Utf8.decode a0 pos).1 : Int) == 32) = true := beq_iff_eq.2 (h32.2 c32)
        have HT := Lib.hid (typeLen_is a0 pos hpos HALL.out (fun _ => .inl c32))
        clear h32 h59 c32 hwd
        go_wp2
        go_ret
        exact ⟨by rw [HT.out]; simp, (Below.refl _ _).alloc (Nat.le_refl _) _⟩
      · have t32 : (((Utf8.decode a0 pos).1 : Int) == 32) = false := beq_eq_false_iff_ne.2 (fun e => c32 (h32.1 e))
        by_cases c59 : bt a0 (pos : Int) = 59
        · have t59 : (((Utf8.decode a0 pos).1 : Int) == 59) = true := beq_iff_eq.2 (h59.2 c59)
          have HT := Lib.hid (typeLen_is a0 pos hpos HALL.out (fun _ => .inr c59))
          clear h32 h59 c32 c59 hwd
          go_wp2
          go_ret
          exact ⟨by rw [HT.out]; simp, (Below.refl _ _).alloc (Nat.le_refl _) _⟩
        · have t59 : (((Utf8.decode a0 pos).1 : Int) == 59) = false := beq_eq_false_iff_ne.2 (fun e => c59 (h59.1 e))
          have hnew : pos + (Utf8.decode a0 pos).2 ≤ a0.size ∧ ∀ j : Nat, j < pos + (Utf8.decode a0 pos).2 → bt a0 (j : Int) ≠ 32 ∧ bt a0 (j : Int) ≠ 59 := by
            refine ⟨?_, fun j hj => ?_⟩
            · rcases Nat.lt_or_ge 1 (Utf8.decode a0 pos).2 with h1 | h1
              · have := (HCT.out ((Utf8.decode a0 pos).2 - 1) (by omega) (by omega)).1
                omega
              · omega
            · rcases Nat.lt_or_ge j pos with h1 | h1
              · exact HALL.out j h1
              · rcases Nat.eq_or_lt_of_le h1 with h2 | h2
                · subst h2; exact ⟨c32, c59⟩
                · have := (HCT.out (j - pos) (by omega) (by omega)).2
                  have e : pos + (j - pos) = j := by omega
                  rw [e] at this
                  omega
          have HN := Lib.hid hnew
          clear hnew h32 h59 c32 c59
          go_wp2
          go_roundw
          case rel => exact ⟨_, rfl, HN.out.1, HN.out.2⟩
          case measure =>
            simp
            omega
    · have hnx : ∀ ty, (Instr.next (.pointer (some ⟨w.heap.size, 0, none⟩)) true ty).run Try.prog (w.iter a0 pos) = _ := fun ty => run_next_end w a0 pos ty hp
      have HT := Lib.hid (typeLen_is a0 pos hpos HALL.out (fun hl => absurd hl hp))
      go_wp2
      go_ret
      refine ⟨?_, (Below.refl _ _).alloc (Nat.le_refl _) _⟩
      rw [HT.out]
      have e : pos = a0.size := by omega
      have e2 : a0.extract 0 pos = a0 := by
        refine ns_inj ?_
        rw [ns_extract, List.drop_zero, Nat.sub_zero, e, ← ns_length, List.take_length]
      rw [e2]; rfl
end Go.Proofs.Ytdfeojkombmiaaa.Given
