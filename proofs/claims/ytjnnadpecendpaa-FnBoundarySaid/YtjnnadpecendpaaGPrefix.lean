/- bytes.HasPrefix over two slices that are read. -/
import Derived.Test.YtjnnadpecendpaaQA1
import Derived.Test.YtjnnadpecendpaaGvRow
set_option linter.unusedVariables false
set_option linter.unusedSimpArgs false
namespace Go.Proofs.Ytjnnadpecendpaa.Given
open Go.RowKit Go.Proofs.YtjnnadpecendpaaW.PrintWords Go.Proofs.YtjnnadpecendpaaW.PrintLast Go.Proofs.YtjnnadpecendpaaW.PrintMore Go.Proofs.Ytjnnadpecendpaa.Base Go.Proofs.Ytjnnadpecendpaa.Gv Go.Proofs.Ytjnnadpecendpaa.QA

theorem equal_is (a b : List Int) (ha : ∀ x ∈ a, 0 ≤ x ∧ x ≤ 255) (hb : ∀ x ∈ b, 0 ≤ x ∧ x ≤ 255) : bytes_Equal.f a b = some (decide (a = b)) := by
  unfold bytes_Equal.f
  congr 1
  rw [Bool.eq_iff_iff, beq_iff_eq, decide_eq_true_eq, toList_eq_iff]
  constructor
  · intro e
    have := congrArg ns e
    rwa [ns_strOfNums ha, ns_strOfNums hb] at this
  · intro e; rw [e]
set_option maxHeartbeats 1000000 in
set_option maxRecDepth 100000 in
theorem hasPrefix_calls (w : World) (A0 A1 : Option Addr) (c0 c1 : Nat) (a b : List Int) (ha : ∀ x ∈ a, 0 ≤ x ∧ x ≤ 255) (hb : ∀ x ∈ b, 0 ≤ x ∧ x ≤ 255) (h0 : Kd.C (Kd.int .u8) w A0 a.length a) (k0 : a.length ≤ c0) (h1 : Kd.C (Kd.int .u8) w A1 b.length b) (k1 : b.length ≤ c1) :
    Calls Try.prog 71 #[.slice A0 a.length c0, .slice A1 b.length c1] w fun e w' => e = .returned (.bool (decide (b.length ≤ a.length ∧ a.take b.length = b))) ∧ ∃ n, w' = w.drewN n := by
  by_cases hle : b.length ≤ a.length
  · obtain ⟨m, hm⟩ : ∃ m, b.length = m := ⟨_, rfl⟩
    have hml : (a.take b.length).length = m := by rw [List.length_take]; omega
    have hE := bytes_Equal.calls A0 c0 (a.take b.length) A1 c1 b (decide (a.take b.length = b)) w
      (Kd.C_take (m := b.length) h0 hle) (by rw [hml]; omega) h1 k1 (equal_is _ _ (fun x hx => ha x (List.mem_of_mem_take hx)) hb)
    rw [hml] at hE
    obtain ⟨T, hT⟩ : ∃ T, decide (b.length ≤ a.length ∧ a.take b.length = b) = T := ⟨_, rfl⟩
    have hT2 : decide (a.take b.length = b) = T := by rw [← hT]; exact decide_eq_decide.2 ⟨fun e => ⟨hle, e⟩, fun e => e.2⟩
    rw [hT2] at hE
    rw [hT, hm]
    rw [hm] at hE
    have HE := Lib.hid hE
    have hinfo : (Try.prog.info? 5).map (fun i => (i.zero, i.size, i.bytes)) = some (some (.int .u8 0), 1, 1) := by kernel_rfl
    obtain ⟨i0, hi, _, hsz, _⟩ := info_parts hinfo
    have hcut := cut_to (P := Try.prog) 56 5 .i64 Try.underlying56 hi A0 a.length c0 (m : Int) (by omega) (by omega) k0
    have q1 : (m : Int) ≤ (a.length : Int) := by omega
    have q2 : decide ((m : Int) ≤ (a.length : Int)) = true := decide_eq_true q1
    clear hE hT hT2 hml h0 h1 ha hb hinfo hi hsz hle hm
    go_enter Try.func71, Try.ntmps71
    go_wp2_with (go_at_call 92; refine HE.out.mono ?_; rintro e w1 ⟨rfl, ⟨nd, rfl⟩⟩)
    go_ret
    exact ⟨rfl, nd, rfl⟩
  · obtain ⟨T, hT⟩ : ∃ T, decide (b.length ≤ a.length ∧ a.take b.length = b) = T := ⟨_, rfl⟩
    have hT2 : T = false := by rw [← hT]; exact decide_eq_false (fun h => hle h.1)
    rw [hT]
    subst hT2
    have q2 : decide ((b.length : Int) ≤ (a.length : Int)) = false := decide_eq_false (by omega)
    clear hT h0 h1 ha hb
    go_enter Try.func71, Try.ntmps71
    go_wp2
    go_ret
    exact ⟨rfl, 0, rfl⟩
end Go.Proofs.Ytjnnadpecendpaa.Given
