/- Printed by wip/pr.py (a program of this repo over the print program of the kit). Not trusted: Lean checks it. -/
import Derived.Test.YtjnnadpecendpaaQA0
import Derived.Test.YtjnnadpecendpaaQA1
import Derived.Test.YtjnnadpecendpaaGStr
namespace Go.Proofs.Ytjnnadpecendpaa.QA
open Go.Proofs.Ytjnnadpecendpaa.Given
open Go.Proofs.Ytjnnadpecendpaa.PrX
open Go.RowKit Go.Proofs.YtjnnadpecendpaaW.PrintWords Go.Proofs.YtjnnadpecendpaaW.PrintLast Go.Proofs.YtjnnadpecendpaaW.PrintMore
attribute [local go_sem] max2_int min2_int max_two min_two max_three min_three max_four min_four   -- for this text's walks alone
set_option linter.unusedVariables false
set_option linter.unusedSimpArgs false

-- given: function 53 (hertzstr_StrAuthorization)

-- given: function 54 (hertzstr_StrContentType)

-- given: function 55 (hertzstr_StrContentEncoding)

-- given: function 56 (hertzstr_StrContentLength)

-- given: function 57 (hertzstr_StrContentRange)

-- given: function 58 (hertzstr_StrConnection)

-- given: function 59 (hertzstr_StrExpect)

-- given: function 60 (hertzstr_StrHost)

-- given: function 61 (hertzstr_StrKeepAlive)

-- given: function 62 (hertzstr_StrMaxForwards)

-- given: function 63 (hertzstr_StrProxyConnection)

-- given: function 64 (hertzstr_StrProxyAuthenticate)

-- given: function 65 (hertzstr_StrProxyAuthorization)

-- given: function 66 (hertzstr_StrRange)

-- given: function 67 (hertzstr_StrTE)

-- given: function 68 (hertzstr_StrTrailer)

-- given: function 69 (hertzstr_StrTransferEncoding)

-- given: function 70 (hertzstr_StrWWWAuthenticate)

/-! ### hertzproto_IsBadTrailer: function 33 -/
mutual
def hertzproto_IsBadTrailer.j0 : Nat → List Int → Bool → Option (Bool)
  | 0, _, _ => none
  | k + 1, x0, x23 => if x23 = true then (if 8 ≤ (x0.length : Int) then ((hertzstr_StrContentEncoding.f).bind fun t118 => (if 8 ≤ (t118.length : Int) then ((hertzutils_CaseInsensitiveCompare.f k (x0.drop 8) (t118.drop 8)).bind fun t125 => (if t125 = true then (some true) else ((hertzstr_StrContentLength.f).bind fun t127 => (if 8 ≤ (t127.length : Int) then ((hertzutils_CaseInsensitiveCompare.f k (x0.drop 8) (t127.drop 8)).bind fun t134 => (if t134 = true then (some true) else ((hertzstr_StrContentType.f).bind fun t136 => (if 8 ≤ (t136.length : Int) then ((hertzutils_CaseInsensitiveCompare.f k (x0.drop 8) (t136.drop 8)).bind fun t143 => (if t143 = true then (some true) else ((hertzstr_StrContentRange.f).bind fun t145 => (if 8 ≤ (t145.length : Int) then ((hertzutils_CaseInsensitiveCompare.f k (x0.drop 8) (t145.drop 8)).bind fun t152 => (some t152)) else (none))))) else (none))))) else (none))))) else (none))) else (none)) else ((hertzstr_StrConnection.f).bind fun t153 => ((hertzutils_CaseInsensitiveCompare.f k x0 t153).bind fun t156 => (some t156)))
def hertzproto_IsBadTrailer.j1 : Nat → List Int → Bool → Option (Bool)
  | 0, _, _ => none
  | k + 1, x0, x84 => if x84 = true then (if 6 ≤ (x0.length : Int) then ((hertzstr_StrProxyConnection.f).bind fun t183 => (if 6 ≤ (t183.length : Int) then ((hertzutils_CaseInsensitiveCompare.f k (x0.drop 6) (t183.drop 6)).bind fun t190 => (if t190 = true then (some true) else ((hertzstr_StrProxyAuthenticate.f).bind fun t192 => (if 6 ≤ (t192.length : Int) then ((hertzutils_CaseInsensitiveCompare.f k (x0.drop 6) (t192.drop 6)).bind fun t199 => (if t199 = true then (some true) else ((hertzstr_StrProxyAuthorization.f).bind fun t201 => (if 6 ≤ (t201.length : Int) then ((hertzutils_CaseInsensitiveCompare.f k (x0.drop 6) (t201.drop 6)).bind fun t208 => (some t208)) else (none))))) else (none))))) else (none))) else (none)) else (some false)
end
def hertzproto_IsBadTrailer.f (k : Nat) (l0 : List Int) : Option (Bool) := if 0 < (l0.length : Int) then (if (Go.bits .or .u8 (rd l0 0) 32) = 97 then ((hertzstr_StrAuthorization.f).bind fun t104 => ((hertzutils_CaseInsensitiveCompare.f k l0 t104).bind fun t107 => (some t107))) else (if (Go.bits .or .u8 (rd l0 0) 32) = 99 then (if (l0.length : Int) ≥ 12 then (if 8 ≤ (l0.length : Int) then ((hertzstr_StrContentType.f).bind fun t109 => (if 8 ≤ (t109.length : Int) then ((hertzutils_CaseInsensitiveCompare.f k (l0.take 8) (t109.take 8)).bind fun t116 => (hertzproto_IsBadTrailer.j0 k l0 t116)) else (none))) else (none)) else (hertzproto_IsBadTrailer.j0 k l0 false)) else (if (Go.bits .or .u8 (rd l0 0) 32) = 101 then ((hertzstr_StrExpect.f).bind fun t157 => ((hertzutils_CaseInsensitiveCompare.f k l0 t157).bind fun t160 => (some t160))) else (if (Go.bits .or .u8 (rd l0 0) 32) = 104 then ((hertzstr_StrHost.f).bind fun t161 => ((hertzutils_CaseInsensitiveCompare.f k l0 t161).bind fun t164 => (some t164))) else (if (Go.bits .or .u8 (rd l0 0) 32) = 107 then ((hertzstr_StrKeepAlive.f).bind fun t165 => ((hertzutils_CaseInsensitiveCompare.f k l0 t165).bind fun t168 => (some t168))) else (if (Go.bits .or .u8 (rd l0 0) 32) = 109 then ((hertzstr_StrMaxForwards.f).bind fun t169 => ((hertzutils_CaseInsensitiveCompare.f k l0 t169).bind fun t172 => (some t172))) else (if (Go.bits .or .u8 (rd l0 0) 32) = 112 then (if (l0.length : Int) ≥ 16 then (if 6 ≤ (l0.length : Int) then ((hertzstr_StrProxyConnection.f).bind fun t174 => (if 6 ≤ (t174.length : Int) then ((hertzutils_CaseInsensitiveCompare.f k (l0.take 6) (t174.take 6)).bind fun t181 => (hertzproto_IsBadTrailer.j1 k l0 t181)) else (none))) else (none)) else (hertzproto_IsBadTrailer.j1 k l0 false)) else (if (Go.bits .or .u8 (rd l0 0) 32) = 114 then ((hertzstr_StrRange.f).bind fun t209 => ((hertzutils_CaseInsensitiveCompare.f k l0 t209).bind fun t212 => (some t212))) else (if (Go.bits .or .u8 (rd l0 0) 32) = 116 then ((hertzstr_StrTE.f).bind fun t213 => ((hertzutils_CaseInsensitiveCompare.f k l0 t213).bind fun t216 => (if t216 = true then (some true) else ((hertzstr_StrTrailer.f).bind fun t217 => ((hertzutils_CaseInsensitiveCompare.f k l0 t217).bind fun t220 => (if t220 = true then (some true) else ((hertzstr_StrTransferEncoding.f).bind fun t221 => ((hertzutils_CaseInsensitiveCompare.f k l0 t221).bind fun t224 => (some t224))))))))) else (if (Go.bits .or .u8 (rd l0 0) 32) = 119 then ((hertzstr_StrWWWAuthenticate.f).bind fun t225 => ((hertzutils_CaseInsensitiveCompare.f k l0 t225).bind fun t228 => (some t228))) else (some false))))))))))) else (none)
theorem hertzproto_IsBadTrailer.mono_l : ∀ k, (∀ y0 y1, LeO (hertzproto_IsBadTrailer.j0 k y0 y1) (hertzproto_IsBadTrailer.j0 (k + 1) y0 y1)) ∧ (∀ y0 y1, LeO (hertzproto_IsBadTrailer.j1 k y0 y1) (hertzproto_IsBadTrailer.j1 (k + 1) y0 y1))
  | 0 => ⟨fun _ _ r h => by simp [hertzproto_IsBadTrailer.j0] at h, fun _ _ r h => by simp [hertzproto_IsBadTrailer.j1] at h⟩
  | k + 1 => by
    obtain ⟨ih0, ih1⟩ := hertzproto_IsBadTrailer.mono_l k
    refine ⟨?_, ?_⟩
    · intro y0 y1
      unfold hertzproto_IsBadTrailer.j0
      repeat' first
      | (with_reducible exact ih0 _ _)
      | (with_reducible exact ih1 _ _)
      | (with_reducible exact hertzutils_CaseInsensitiveCompare.mono _ _ _)
      | (with_reducible exact LeO.refl _)
      | (with_reducible exact LeO.none _)
      | (with_reducible refine LeO.ite ?_ ?_)
      | (with_reducible refine LeO.bind ?_ (fun _ => ?_))
      | exact ih0 _ _
      | exact ih1 _ _
      | exact hertzutils_CaseInsensitiveCompare.mono _ _ _
      | exact LeO.none _
      | refine LeO.ite ?_ ?_
      | refine LeO.bind ?_ (fun _ => ?_)
    · intro y0 y1
      unfold hertzproto_IsBadTrailer.j1
      repeat' first
      | (with_reducible exact ih0 _ _)
      | (with_reducible exact ih1 _ _)
      | (with_reducible exact hertzutils_CaseInsensitiveCompare.mono _ _ _)
      | (with_reducible exact LeO.refl _)
      | (with_reducible exact LeO.none _)
      | (with_reducible refine LeO.ite ?_ ?_)
      | (with_reducible refine LeO.bind ?_ (fun _ => ?_))
      | exact ih0 _ _
      | exact ih1 _ _
      | exact hertzutils_CaseInsensitiveCompare.mono _ _ _
      | exact LeO.none _
      | refine LeO.ite ?_ ?_
      | refine LeO.bind ?_ (fun _ => ?_)
theorem hertzproto_IsBadTrailer.mono : ∀ a0 k, LeO (hertzproto_IsBadTrailer.f k a0) (hertzproto_IsBadTrailer.f (k + 1) a0) := by
  intro a0 k
  obtain ⟨ih0, ih1⟩ := hertzproto_IsBadTrailer.mono_l k
  unfold hertzproto_IsBadTrailer.f
  repeat' first
      | (with_reducible exact ih0 _ _)
      | (with_reducible exact ih1 _ _)
      | (with_reducible exact hertzutils_CaseInsensitiveCompare.mono _ _ _)
      | (with_reducible exact LeO.refl _)
      | (with_reducible exact LeO.none _)
      | (with_reducible refine LeO.ite ?_ ?_)
      | (with_reducible refine LeO.bind ?_ (fun _ => ?_))
      | exact ih0 _ _
      | exact ih1 _ _
      | exact hertzutils_CaseInsensitiveCompare.mono _ _ _
      | exact LeO.none _
      | refine LeO.ite ?_ ?_
      | refine LeO.bind ?_ (fun _ => ?_)
def hertzproto_IsBadTrailer.T5 : Bool × List (List Nat × List Nat) := (true, [([], []), ([0], [0]), ([1], [1]), ([2], [2]), ([3], [3]), ([4, 3], [3, 4]), ([3, 3], [3]), ([6, 3], [3, 6]), ([5, 7, 6, 3], [3, 5, 7]), ([3, 8], [3, 8])])
def hertzproto_IsBadTrailer.B5 : List Nat := [0, 1, 3, 7, 15, 31, 15, 79, 255, 511]
theorem hertzproto_IsBadTrailer.tab5 : rtab .any (opsOf Try.f33 5) = hertzproto_IsBadTrailer.T5 := by kernel_rfl
theorem hertzproto_IsBadTrailer.bits5 : waitsOk hertzproto_IsBadTrailer.T5.2 hertzproto_IsBadTrailer.B5 = true := by kernel_rfl
def hertzproto_IsBadTrailer.T6 : Bool × List (List Nat × List Nat) := (true, [([], []), ([0], [0]), ([], []), ([2], [2]), ([1, 3, 2], [1, 3]), ([4, 4], [4]), ([5], [5]), ([6, 5], [5, 6]), ([5, 5], [5]), ([8, 5], [5, 8]), ([7, 9, 8, 5], [5, 7, 9]), ([5, 10], [5, 10]), ([11, 10], [11]), ([12], [12]), ([13, 12], [12, 13]), ([12, 12], [12]), ([15, 12], [12, 15]), ([14, 16, 15, 12], [12, 14, 16]), ([12, 17], [12, 17]), ([18, 17], [18]), ([19], [19]), ([20, 19], [19, 20]), ([19, 19], [19]), ([22, 19], [19, 22]), ([21, 23, 22, 19], [19, 21, 23]), ([19, 24], [19, 24]), ([25, 24, 0, 1, 2, 3, 4, 5, 6, 7, 8, 9, 10, 11, 12, 13, 14, 15, 16, 17, 18, 19, 20, 21, 22, 23, 24, 25], [25])])
def hertzproto_IsBadTrailer.B6 : List Nat := [0, 1, 0, 4, 15, 31, 63, 127, 63, 319, 1023, 2047, 4095, 8191, 16383, 8191, 40959, 131071, 262143, 524287, 1048575, 2097151, 1048575, 5242879, 16777215, 33554431, 67108863]
theorem hertzproto_IsBadTrailer.tab6 : rtab .any (opsOf Try.f33 6) = hertzproto_IsBadTrailer.T6 := by kernel_rfl
theorem hertzproto_IsBadTrailer.bits6 : waitsOk hertzproto_IsBadTrailer.T6.2 hertzproto_IsBadTrailer.B6 = true := by kernel_rfl
def hertzproto_IsBadTrailer.T17 : Bool × List (List Nat × List Nat) := (true, [([], []), ([0], [0]), ([1], [1]), ([2], [2]), ([3], [3]), ([4, 3], [3, 4]), ([3, 3], [3]), ([6, 3], [3, 6]), ([5, 7, 6, 3], [3, 5, 7]), ([3, 8], [3, 8])])
def hertzproto_IsBadTrailer.B17 : List Nat := [0, 1, 3, 7, 15, 31, 15, 79, 255, 511]
theorem hertzproto_IsBadTrailer.tab17 : rtab .any (opsOf Try.f33 17) = hertzproto_IsBadTrailer.T17 := by kernel_rfl
theorem hertzproto_IsBadTrailer.bits17 : waitsOk hertzproto_IsBadTrailer.T17.2 hertzproto_IsBadTrailer.B17 = true := by kernel_rfl
def hertzproto_IsBadTrailer.T18 : Bool × List (List Nat × List Nat) := (true, [([], []), ([0], [0]), ([], []), ([2], [2]), ([1, 3, 2], [1, 3]), ([4, 4], [4]), ([5], [5]), ([6, 5], [5, 6]), ([5, 5], [5]), ([8, 5], [5, 8]), ([7, 9, 8, 5], [5, 7, 9]), ([5, 10], [5, 10]), ([11, 10], [11]), ([12], [12]), ([13, 12], [12, 13]), ([12, 12], [12]), ([15, 12], [12, 15]), ([14, 16, 15, 12], [12, 14, 16]), ([12, 17], [12, 17]), ([18, 17, 0, 1, 2, 3, 4, 5, 6, 7, 8, 9, 10, 11, 12, 13, 14, 15, 16, 17, 18], [18])])
def hertzproto_IsBadTrailer.B18 : List Nat := [0, 1, 0, 4, 15, 31, 63, 127, 63, 319, 1023, 2047, 4095, 8191, 16383, 8191, 40959, 131071, 262143, 524287]
theorem hertzproto_IsBadTrailer.tab18 : rtab .any (opsOf Try.f33 18) = hertzproto_IsBadTrailer.T18 := by kernel_rfl
theorem hertzproto_IsBadTrailer.bits18 : waitsOk hertzproto_IsBadTrailer.T18.2 hertzproto_IsBadTrailer.B18 = true := by kernel_rfl

end Go.Proofs.Ytjnnadpecendpaa.QA
