/- Texts of this claim, one behind the other (merged by wip/prune.py of this repo, without what the proof does not use): GBytesIdx. -/
import Derived.Test.YtgmjaggkiifdjaaDoorZS7
import Derived.Shelf.Bytes.SlIndexAt
set_option linter.unusedVariables false
set_option linter.unusedSimpArgs false
namespace Go.Proofs.YtgmjaggkiifdjaaDoor.Given
open Go.RowKit Go.Proofs.YtgmjaggkiifdjaaDoorW.PrintWords Go.Proofs.YtgmjaggkiifdjaaDoorW.PrintLast Go.Proofs.YtgmjaggkiifdjaaDoorW.PrintMore Go.Proofs.YtgmjaggkiifdjaaDoor.Base Go.Proofs.YtgmjaggkiifdjaaDoor.Gv
def idx : List Int → Int → Int
  | [], _ => -1
  | x :: l, c => if x = c then 0 else if idx l c = -1 then -1 else idx l c + 1
theorem idx_eq (l : List UInt8) (c : Int) (h0 : 0 ≤ c) (h1 : c ≤ 255) : Lib.indexByte l c.toNat.toUInt8 = idx (l.map fun b => (b.toNat : Int)) c := by
  induction l with
  | nil => rfl
  | cons b l ih =>
    have hb : (b == c.toNat.toUInt8) = decide ((b.toNat : Int) = c) := by
      rw [Bool.eq_iff_iff, beq_iff_eq, decide_eq_true_eq, ← UInt8.toNat_inj]
      have : c.toNat.toUInt8.toNat = c.toNat := by
        rw [Nat.toUInt8_eq, UInt8.toNat_ofNat']; omega
      rw [this]; omega
    simp only [Lib.indexByte, idx, List.map_cons, hb, ih, decide_eq_true_eq, beq_iff_eq]
theorem idx_bytes (xs : List Int) (hx : ∀ x ∈ xs, 0 ≤ x ∧ x ≤ 255) (c : Int) (h0 : 0 ≤ c) (h1 : c ≤ 255) : Lib.indexByte (Lib.bytesOf xs) c.toNat.toUInt8 = idx xs c := by
  rw [idx_eq _ _ h0 h1]
  congr 1
  have : ns (strOfNums xs) = xs := ns_strOfNums hx
  conv => rhs; rw [← this]
  rfl
theorem idx_range (l : List Int) (c : Int) : -1 ≤ idx l c ∧ idx l c < l.length := by
  induction l with
  | nil => simp [idx]
  | cons x l ih =>
    unfold idx
    rw [List.length_cons]
    split
    · omega
    · split <;> omega
set_option maxHeartbeats 1000000 in
set_option maxRecDepth 100000 in
theorem bytes_IndexByte_calls (w : World) (A : Option Addr) (c : Nat) (xs : List Int) (cv : Int) (hx : ∀ x ∈ xs, 0 ≤ x ∧ x ≤ 255) (h0 : 0 ≤ cv) (h1 : cv ≤ 255) (h : ReadsOf (Value.int .u8) 0 w A xs.length xs) :
    Calls Tryd.prog 88 #[.slice A xs.length c, .int .u8 cv] w fun e w' => e = .returned (.int .i64 (idx xs cv)) ∧ w' = w := by
  rcases Nat.eq_zero_or_pos xs.length with hz | hp
  · obtain rfl : xs = [] := List.eq_nil_of_length_eq_zero hz
    cases A with
    | none =>
      go_enter Tryd.func88, Tryd.ntmps88
      go_wp2
      rw [run_callFunc_extern Tryd.func103 (by kernel_rfl) (by kernel_rfl) (by kernel_rfl) (e := Extern.BytealgIndexByte.indexByte) (by kernel_rfl), Lib.run_indexByteNil w _ c cv]
      simp only [Result.andThen]
      rw [Oper.upon_value]
      go_wp2
      go_ret
      exact ⟨rfl, rfl⟩
    | some a =>
      go_enter Tryd.func88, Tryd.ntmps88
      go_wp2
      rw [run_callFunc_extern Tryd.func103 (by kernel_rfl) (by kernel_rfl) (by kernel_rfl) (e := Extern.BytealgIndexByte.indexByte) (by kernel_rfl), Lib.run_indexByteAt w a 0 c [] rfl (fun i hi => absurd hi (by omega)) cv]
      simp only [Result.andThen]
      rw [Oper.upon_value]
      go_wp2
      go_ret
      exact ⟨rfl, rfl⟩
  · obtain ⟨a, rfl, hc⟩ := h.2.2 hp
    obtain ⟨R, hR⟩ : ∃ R, Lib.indexByte (Lib.bytesOf xs) cv.toNat.toUInt8 = R := ⟨_, rfl⟩
    have hr := Lib.run_indexByteAt (P := Tryd.prog) w a xs.length c xs rfl hc cv
    rw [hR] at hr
    have hR2 : idx xs cv = R := by rw [← idx_bytes xs hx cv h0 h1]; exact hR
    rw [hR2]
    clear hR hR2 hc h
    go_enter Tryd.func88, Tryd.ntmps88
    go_wp2
    rw [run_callFunc_extern Tryd.func103 (by kernel_rfl) (by kernel_rfl) (by kernel_rfl) (e := Extern.BytealgIndexByte.indexByte) (by kernel_rfl), hr]
    simp only [Result.andThen]
    rw [Oper.upon_value]
    go_wp2
    go_ret
    exact ⟨rfl, rfl⟩
end Go.Proofs.YtgmjaggkiifdjaaDoor.Given
