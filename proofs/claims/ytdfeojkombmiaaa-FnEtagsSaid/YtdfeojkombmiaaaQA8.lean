/- Printed by wip/pr.py (a program of this repo over the print program of the kit). Not trusted: Lean checks it. -/
import Derived.Test.YtdfeojkombmiaaaQA0
import Derived.Test.YtdfeojkombmiaaaQA2
import Derived.Test.YtdfeojkombmiaaaQA3
import Derived.Test.YtdfeojkombmiaaaQA4
import Derived.Test.YtdfeojkombmiaaaQA5
import Derived.Test.YtdfeojkombmiaaaQA7
namespace Go.Proofs.Ytdfeojkombmiaaa.QA
open Go.Proofs.Ytdfeojkombmiaaa.Given
open Go.Proofs.Ytdfeojkombmiaaa.PrX
open Go.RowKit Go.Proofs.YtdfeojkombmiaaaW.PrintWords Go.Proofs.YtdfeojkombmiaaaW.PrintLast Go.Proofs.YtdfeojkombmiaaaW.PrintMore
attribute [local go_sem] max2_int min2_int max_two min_two max_three min_three max_four min_four   -- for this text's walks alone
set_option linter.unusedVariables false
set_option linter.unusedSimpArgs false

/-! ### laws_FnEtags: function 10 -/
mutual
def laws_FnEtags.j0 : Nat → ByteArray → Bool → List ByteArray → List Int → Bool → Option (Bool)
  | 0, _, _, _, _, _ => none
  | k + 1, x0, x1, x2, x3, x27 => if x27 = true then (some true) else ((impl_EtagMatch.f (⟨#[87, 47, 34, 97, 34]⟩ : ByteArray) (⟨#[34, 97, 34]⟩ : ByteArray)).bind fun t115 => (if t115 = true then ((impl_EtagStale.f (⟨#[34, 97, 34]⟩ : ByteArray) (⟨#[34, 98, 34]⟩ : ByteArray)).bind fun t116 => (if t116 = true then ((impl_EtagStale.f (⟨#[34, 97, 34]⟩ : ByteArray) (⟨#[34, 98, 34, 44, 32, 87, 47, 34, 97, 34]⟩ : ByteArray)).bind fun t117 => (laws_FnEtags.j1 k x0 x1 x2 x3 t117)) else (laws_FnEtags.j1 k x0 x1 x2 x3 true))) else (laws_FnEtags.j1 k x0 x1 x2 x3 true)))
def laws_FnEtags.j1 : Nat → ByteArray → Bool → List ByteArray → List Int → Bool → Option (Bool)
  | 0, _, _, _, _, _ => none
  | k + 1, x0, x1, x2, x3, x36 => if x36 = true then (some false) else ((laws_words.f k (([x0] : List ByteArray))).bind fun t121 => (if t121 = true then (if (x2.length : Int) = 0 then (laws_FnEtags.j2 k x0 x1 x2 x3 true) else ((laws_words.f k x2).bind fun t122 => (laws_FnEtags.j2 k x0 x1 x2 x3 (!t122)))) else (laws_FnEtags.j2 k x0 x1 x2 x3 true)))
def laws_FnEtags.j2 : Nat → ByteArray → Bool → List ByteArray → List Int → Bool → Option (Bool)
  | 0, _, _, _, _, _ => none
  | k + 1, x0, x1, x2, x3, x50 => if x50 = true then (some true) else (if 1 + x0.size ≤ 9223372036854775807 then (if ((⟨#[34]⟩ : ByteArray) ++ x0).size + 1 ≤ 9223372036854775807 then (if x1 = true then (if 2 + (((⟨#[34]⟩ : ByteArray) ++ x0) ++ (⟨#[34]⟩ : ByteArray)).size ≤ 9223372036854775807 then (laws_FnEtags.j3 k x0 x2 x3 ((⟨#[87, 47]⟩ : ByteArray) ++ (((⟨#[34]⟩ : ByteArray) ++ x0) ++ (⟨#[34]⟩ : ByteArray)))) else (none)) else (laws_FnEtags.j3 k x0 x2 x3 (((⟨#[34]⟩ : ByteArray) ++ x0) ++ (⟨#[34]⟩ : ByteArray)))) else (none)) else (none))
def laws_FnEtags.j3 : Nat → ByteArray → List ByteArray → List Int → ByteArray → Option (Bool)
  | 0, _, _, _, _ => none
  | k + 1, x0, x2, x3, x9 => laws_FnEtags.l0 k x0 x3 x9 ([] : List ByteArray) true x2 (x2.length : Int) 0
def laws_FnEtags.l0 : Nat → ByteArray → List Int → ByteArray → List ByteArray → Bool → List ByteArray → Int → Int → Option (Bool)
  | 0, _, _, _, _, _, _, _, _ => none
  | k + 1, x0, x3, x9, x10, x11, x57, x58, x59 => if x59 < x58 then (if 0 ≤ x59 then (if x59 < (x57.length : Int) then (if 1 + (rdOf ByteArray.empty x57 x59).size ≤ 9223372036854775807 then (if ((⟨#[34]⟩ : ByteArray) ++ (rdOf ByteArray.empty x57 x59)).size + 1 ≤ 9223372036854775807 then (if x59 < (x3.length : Int) then (laws_FnEtags.j5 k x0 x3 x9 x10 x11 (rdOf ByteArray.empty x57 x59) (((⟨#[34]⟩ : ByteArray) ++ (rdOf ByteArray.empty x57 x59)) ++ (⟨#[34]⟩ : ByteArray)) x57 x58 x59 ((Int.tmod (rd x3 x59) 2) == 1)) else (laws_FnEtags.j5 k x0 x3 x9 x10 x11 (rdOf ByteArray.empty x57 x59) (((⟨#[34]⟩ : ByteArray) ++ (rdOf ByteArray.empty x57 x59)) ++ (⟨#[34]⟩ : ByteArray)) x57 x58 x59 false)) else (none)) else (none)) else (none)) else (none)) else ((laws_joined.f k x10 (⟨#[44, 32]⟩ : ByteArray)).bind fun t131 => ((impl_EtagStale.f x9 t131).bind fun t132 => (if (t132 == x11) = true then ((laws_joined.f k x10 (⟨#[44]⟩ : ByteArray)).bind fun t133 => ((impl_EtagStale.f x9 t133).bind fun t134 => (some (t134 == x11)))) else (some false))))
def laws_FnEtags.j5 : Nat → ByteArray → List Int → ByteArray → List ByteArray → Bool → ByteArray → ByteArray → List ByteArray → Int → Int → Bool → Option (Bool)
  | 0, _, _, _, _, _, _, _, _, _, _, _ => none
  | k + 1, x0, x3, x9, x10, x11, x13, x14, x57, x58, x59, x78 => if x78 = true then (if 2 + x14.size ≤ 9223372036854775807 then (laws_FnEtags.j6 k x0 x3 x9 x10 x11 x13 ((⟨#[87, 47]⟩ : ByteArray) ++ x14) x57 x58 x59) else (none)) else (laws_FnEtags.j6 k x0 x3 x9 x10 x11 x13 x14 x57 x58 x59)
def laws_FnEtags.j6 : Nat → ByteArray → List Int → ByteArray → List ByteArray → Bool → ByteArray → ByteArray → List ByteArray → Int → Int → Option (Bool)
  | 0, _, _, _, _, _, _, _, _, _, _ => none
  | k + 1, x0, x3, x9, x10, x11, x13, x14, x57, x58, x59 => if x10.length < 8796093022208 then ((some (x10 ++ [x14] : List ByteArray)).bind fun y125 => ((impl_EtagMatch.f x14 x9).bind fun t128 => ((laws_bareTag.f x14).bind fun t129 => ((laws_bareTag.f x9).bind fun t130 => (if (t128 != (t129.toList == t130.toList)) = true then (some false) else (if x11 = true then (laws_FnEtags.l0 k x0 x3 x9 y125 (x13.toList != x0.toList) x57 x58 (wrap64 (x59 + 1))) else (laws_FnEtags.l0 k x0 x3 x9 y125 false x57 x58 (wrap64 (x59 + 1))))))))) else (none)
end
def laws_FnEtags.f (k : Nat) (a0 : ByteArray) (a1 : Bool) (l2 : List ByteArray) (l3 : List Int) : Option (Bool) := if (a0.size : Int) > 2147483647 then (laws_FnEtags.j0 k a0 a1 l2 l3 true) else ((laws_zzFits6.f k l2).bind fun t114 => (if t114 = true then (laws_FnEtags.j0 k a0 a1 l2 l3 (decide ((l3.length : Int) > 2147483647))) else (laws_FnEtags.j0 k a0 a1 l2 l3 true)))
theorem laws_FnEtags.mono_l : ∀ k, (∀ y0 y1 y2 y3 y4, LeO (laws_FnEtags.j0 k y0 y1 y2 y3 y4) (laws_FnEtags.j0 (k + 1) y0 y1 y2 y3 y4)) ∧ (∀ y0 y1 y2 y3 y4, LeO (laws_FnEtags.j1 k y0 y1 y2 y3 y4) (laws_FnEtags.j1 (k + 1) y0 y1 y2 y3 y4)) ∧ (∀ y0 y1 y2 y3 y4, LeO (laws_FnEtags.j2 k y0 y1 y2 y3 y4) (laws_FnEtags.j2 (k + 1) y0 y1 y2 y3 y4)) ∧ (∀ y0 y1 y2 y3, LeO (laws_FnEtags.j3 k y0 y1 y2 y3) (laws_FnEtags.j3 (k + 1) y0 y1 y2 y3)) ∧ (∀ y0 y1 y2 y3 y4 y5 y6 y7, LeO (laws_FnEtags.l0 k y0 y1 y2 y3 y4 y5 y6 y7) (laws_FnEtags.l0 (k + 1) y0 y1 y2 y3 y4 y5 y6 y7)) ∧ (∀ y0 y1 y2 y3 y4 y5 y6 y7 y8 y9 y10, LeO (laws_FnEtags.j5 k y0 y1 y2 y3 y4 y5 y6 y7 y8 y9 y10) (laws_FnEtags.j5 (k + 1) y0 y1 y2 y3 y4 y5 y6 y7 y8 y9 y10)) ∧ (∀ y0 y1 y2 y3 y4 y5 y6 y7 y8 y9, LeO (laws_FnEtags.j6 k y0 y1 y2 y3 y4 y5 y6 y7 y8 y9) (laws_FnEtags.j6 (k + 1) y0 y1 y2 y3 y4 y5 y6 y7 y8 y9))
  | 0 => ⟨fun _ _ _ _ _ r h => by simp [laws_FnEtags.j0] at h, fun _ _ _ _ _ r h => by simp [laws_FnEtags.j1] at h, fun _ _ _ _ _ r h => by simp [laws_FnEtags.j2] at h, fun _ _ _ _ r h => by simp [laws_FnEtags.j3] at h, fun _ _ _ _ _ _ _ _ r h => by simp [laws_FnEtags.l0] at h, fun _ _ _ _ _ _ _ _ _ _ _ r h => by simp [laws_FnEtags.j5] at h, fun _ _ _ _ _ _ _ _ _ _ r h => by simp [laws_FnEtags.j6] at h⟩
  | k + 1 => by
    obtain ⟨ih0, ih1, ih2, ih3, ih4, ih5, ih6⟩ := laws_FnEtags.mono_l k
    refine ⟨?_, ?_, ?_, ?_, ?_, ?_, ?_⟩
    · intro y0 y1 y2 y3 y4
      unfold laws_FnEtags.j0
      repeat' first
      | (with_reducible exact ih0 _ _ _ _ _)
      | (with_reducible exact ih1 _ _ _ _ _)
      | (with_reducible exact ih2 _ _ _ _ _)
      | (with_reducible exact ih3 _ _ _ _)
      | (with_reducible exact ih4 _ _ _ _ _ _ _ _)
      | (with_reducible exact ih5 _ _ _ _ _ _ _ _ _ _ _)
      | (with_reducible exact ih6 _ _ _ _ _ _ _ _ _ _)
      | (with_reducible exact laws_joined.mono _ _ _)
      | (with_reducible exact laws_words.mono _ _)
      | (with_reducible exact laws_zzFits6.mono _ _)
      | (with_reducible exact LeO.refl _)
      | (with_reducible exact LeO.none _)
      | (with_reducible refine LeO.ite ?_ ?_)
      | (with_reducible refine LeO.bind ?_ (fun _ => ?_))
      | exact ih0 _ _ _ _ _
      | exact ih1 _ _ _ _ _
      | exact ih2 _ _ _ _ _
      | exact ih3 _ _ _ _
      | exact ih4 _ _ _ _ _ _ _ _
      | exact ih5 _ _ _ _ _ _ _ _ _ _ _
      | exact ih6 _ _ _ _ _ _ _ _ _ _
      | exact laws_joined.mono _ _ _
      | exact laws_words.mono _ _
      | exact laws_zzFits6.mono _ _
      | exact LeO.none _
      | refine LeO.ite ?_ ?_
      | refine LeO.bind ?_ (fun _ => ?_)
    · intro y0 y1 y2 y3 y4
      unfold laws_FnEtags.j1
      repeat' first
      | (with_reducible exact ih0 _ _ _ _ _)
      | (with_reducible exact ih1 _ _ _ _ _)
      | (with_reducible exact ih2 _ _ _ _ _)
      | (with_reducible exact ih3 _ _ _ _)
      | (with_reducible exact ih4 _ _ _ _ _ _ _ _)
      | (with_reducible exact ih5 _ _ _ _ _ _ _ _ _ _ _)
      | (with_reducible exact ih6 _ _ _ _ _ _ _ _ _ _)
      | (with_reducible exact laws_joined.mono _ _ _)
      | (with_reducible exact laws_words.mono _ _)
      | (with_reducible exact laws_zzFits6.mono _ _)
      | (with_reducible exact LeO.refl _)
      | (with_reducible exact LeO.none _)
      | (with_reducible refine LeO.ite ?_ ?_)
      | (with_reducible refine LeO.bind ?_ (fun _ => ?_))
      | exact ih0 _ _ _ _ _
      | exact ih1 _ _ _ _ _
      | exact ih2 _ _ _ _ _
      | exact ih3 _ _ _ _
      | exact ih4 _ _ _ _ _ _ _ _
      | exact ih5 _ _ _ _ _ _ _ _ _ _ _
      | exact ih6 _ _ _ _ _ _ _ _ _ _
      | exact laws_joined.mono _ _ _
      | exact laws_words.mono _ _
      | exact laws_zzFits6.mono _ _
      | exact LeO.none _
      | refine LeO.ite ?_ ?_
      | refine LeO.bind ?_ (fun _ => ?_)
    · intro y0 y1 y2 y3 y4
      unfold laws_FnEtags.j2
      repeat' first
      | (with_reducible exact ih0 _ _ _ _ _)
      | (with_reducible exact ih1 _ _ _ _ _)
      | (with_reducible exact ih2 _ _ _ _ _)
      | (with_reducible exact ih3 _ _ _ _)
      | (with_reducible exact ih4 _ _ _ _ _ _ _ _)
      | (with_reducible exact ih5 _ _ _ _ _ _ _ _ _ _ _)
      | (with_reducible exact ih6 _ _ _ _ _ _ _ _ _ _)
      | (with_reducible exact laws_joined.mono _ _ _)
      | (with_reducible exact laws_words.mono _ _)
      | (with_reducible exact laws_zzFits6.mono _ _)
      | (with_reducible exact LeO.refl _)
      | (with_reducible exact LeO.none _)
      | (with_reducible refine LeO.ite ?_ ?_)
      | (with_reducible refine LeO.bind ?_ (fun _ => ?_))
      | exact ih0 _ _ _ _ _
      | exact ih1 _ _ _ _ _
      | exact ih2 _ _ _ _ _
      | exact ih3 _ _ _ _
      | exact ih4 _ _ _ _ _ _ _ _
      | exact ih5 _ _ _ _ _ _ _ _ _ _ _
      | exact ih6 _ _ _ _ _ _ _ _ _ _
      | exact laws_joined.mono _ _ _
      | exact laws_words.mono _ _
      | exact laws_zzFits6.mono _ _
      | exact LeO.none _
      | refine LeO.ite ?_ ?_
      | refine LeO.bind ?_ (fun _ => ?_)
    · intro y0 y1 y2 y3
      unfold laws_FnEtags.j3
      repeat' first
      | (with_reducible exact ih0 _ _ _ _ _)
      | (with_reducible exact ih1 _ _ _ _ _)
      | (with_reducible exact ih2 _ _ _ _ _)
      | (with_reducible exact ih3 _ _ _ _)
      | (with_reducible exact ih4 _ _ _ _ _ _ _ _)
      | (with_reducible exact ih5 _ _ _ _ _ _ _ _ _ _ _)
      | (with_reducible exact ih6 _ _ _ _ _ _ _ _ _ _)
      | (with_reducible exact laws_joined.mono _ _ _)
      | (with_reducible exact laws_words.mono _ _)
      | (with_reducible exact laws_zzFits6.mono _ _)
      | (with_reducible exact LeO.refl _)
      | (with_reducible exact LeO.none _)
      | (with_reducible refine LeO.ite ?_ ?_)
      | (with_reducible refine LeO.bind ?_ (fun _ => ?_))
      | exact ih0 _ _ _ _ _
      | exact ih1 _ _ _ _ _
      | exact ih2 _ _ _ _ _
      | exact ih3 _ _ _ _
      | exact ih4 _ _ _ _ _ _ _ _
      | exact ih5 _ _ _ _ _ _ _ _ _ _ _
      | exact ih6 _ _ _ _ _ _ _ _ _ _
      | exact laws_joined.mono _ _ _
      | exact laws_words.mono _ _
      | exact laws_zzFits6.mono _ _
      | exact LeO.none _
      | refine LeO.ite ?_ ?_
      | refine LeO.bind ?_ (fun _ => ?_)
    · intro y0 y1 y2 y3 y4 y5 y6 y7
      unfold laws_FnEtags.l0
      repeat' first
      | (with_reducible exact ih0 _ _ _ _ _)
      | (with_reducible exact ih1 _ _ _ _ _)
      | (with_reducible exact ih2 _ _ _ _ _)
      | (with_reducible exact ih3 _ _ _ _)
      | (with_reducible exact ih4 _ _ _ _ _ _ _ _)
      | (with_reducible exact ih5 _ _ _ _ _ _ _ _ _ _ _)
      | (with_reducible exact ih6 _ _ _ _ _ _ _ _ _ _)
      | (with_reducible exact laws_joined.mono _ _ _)
      | (with_reducible exact laws_words.mono _ _)
      | (with_reducible exact laws_zzFits6.mono _ _)
      | (with_reducible exact LeO.refl _)
      | (with_reducible exact LeO.none _)
      | (with_reducible refine LeO.ite ?_ ?_)
      | (with_reducible refine LeO.bind ?_ (fun _ => ?_))
      | exact ih0 _ _ _ _ _
      | exact ih1 _ _ _ _ _
      | exact ih2 _ _ _ _ _
      | exact ih3 _ _ _ _
      | exact ih4 _ _ _ _ _ _ _ _
      | exact ih5 _ _ _ _ _ _ _ _ _ _ _
      | exact ih6 _ _ _ _ _ _ _ _ _ _
      | exact laws_joined.mono _ _ _
      | exact laws_words.mono _ _
      | exact laws_zzFits6.mono _ _
      | exact LeO.none _
      | refine LeO.ite ?_ ?_
      | refine LeO.bind ?_ (fun _ => ?_)
    · intro y0 y1 y2 y3 y4 y5 y6 y7 y8 y9 y10
      unfold laws_FnEtags.j5
      repeat' first
      | (with_reducible exact ih0 _ _ _ _ _)
      | (with_reducible exact ih1 _ _ _ _ _)
      | (with_reducible exact ih2 _ _ _ _ _)
      | (with_reducible exact ih3 _ _ _ _)
      | (with_reducible exact ih4 _ _ _ _ _ _ _ _)
      | (with_reducible exact ih5 _ _ _ _ _ _ _ _ _ _ _)
      | (with_reducible exact ih6 _ _ _ _ _ _ _ _ _ _)
      | (with_reducible exact laws_joined.mono _ _ _)
      | (with_reducible exact laws_words.mono _ _)
      | (with_reducible exact laws_zzFits6.mono _ _)
      | (with_reducible exact LeO.refl _)
      | (with_reducible exact LeO.none _)
      | (with_reducible refine LeO.ite ?_ ?_)
      | (with_reducible refine LeO.bind ?_ (fun _ => ?_))
      | exact ih0 _ _ _ _ _
      | exact ih1 _ _ _ _ _
      | exact ih2 _ _ _ _ _
      | exact ih3 _ _ _ _
      | exact ih4 _ _ _ _ _ _ _ _
      | exact ih5 _ _ _ _ _ _ _ _ _ _ _
      | exact ih6 _ _ _ _ _ _ _ _ _ _
      | exact laws_joined.mono _ _ _
      | exact laws_words.mono _ _
      | exact laws_zzFits6.mono _ _
      | exact LeO.none _
      | refine LeO.ite ?_ ?_
      | refine LeO.bind ?_ (fun _ => ?_)
    · intro y0 y1 y2 y3 y4 y5 y6 y7 y8 y9
      unfold laws_FnEtags.j6
      repeat' first
      | (with_reducible exact ih0 _ _ _ _ _)
      | (with_reducible exact ih1 _ _ _ _ _)
      | (with_reducible exact ih2 _ _ _ _ _)
      | (with_reducible exact ih3 _ _ _ _)
      | (with_reducible exact ih4 _ _ _ _ _ _ _ _)
      | (with_reducible exact ih5 _ _ _ _ _ _ _ _ _ _ _)
      | (with_reducible exact ih6 _ _ _ _ _ _ _ _ _ _)
      | (with_reducible exact laws_joined.mono _ _ _)
      | (with_reducible exact laws_words.mono _ _)
      | (with_reducible exact laws_zzFits6.mono _ _)
      | (with_reducible exact LeO.refl _)
      | (with_reducible exact LeO.none _)
      | (with_reducible refine LeO.ite ?_ ?_)
      | (with_reducible refine LeO.bind ?_ (fun _ => ?_))
      | exact ih0 _ _ _ _ _
      | exact ih1 _ _ _ _ _
      | exact ih2 _ _ _ _ _
      | exact ih3 _ _ _ _
      | exact ih4 _ _ _ _ _ _ _ _
      | exact ih5 _ _ _ _ _ _ _ _ _ _ _
      | exact ih6 _ _ _ _ _ _ _ _ _ _
      | exact laws_joined.mono _ _ _
      | exact laws_words.mono _ _
      | exact laws_zzFits6.mono _ _
      | exact LeO.none _
      | refine LeO.ite ?_ ?_
      | refine LeO.bind ?_ (fun _ => ?_)
theorem laws_FnEtags.mono : ∀ a0 a1 a2 a3 k, LeO (laws_FnEtags.f k a0 a1 a2 a3) (laws_FnEtags.f (k + 1) a0 a1 a2 a3) := by
  intro a0 a1 a2 a3 k
  obtain ⟨ih0, ih1, ih2, ih3, ih4, ih5, ih6⟩ := laws_FnEtags.mono_l k
  unfold laws_FnEtags.f
  repeat' first
      | (with_reducible exact ih0 _ _ _ _ _)
      | (with_reducible exact ih1 _ _ _ _ _)
      | (with_reducible exact ih2 _ _ _ _ _)
      | (with_reducible exact ih3 _ _ _ _)
      | (with_reducible exact ih4 _ _ _ _ _ _ _ _)
      | (with_reducible exact ih5 _ _ _ _ _ _ _ _ _ _ _)
      | (with_reducible exact ih6 _ _ _ _ _ _ _ _ _ _)
      | (with_reducible exact laws_joined.mono _ _ _)
      | (with_reducible exact laws_words.mono _ _)
      | (with_reducible exact laws_zzFits6.mono _ _)
      | (with_reducible exact LeO.refl _)
      | (with_reducible exact LeO.none _)
      | (with_reducible refine LeO.ite ?_ ?_)
      | (with_reducible refine LeO.bind ?_ (fun _ => ?_))
      | exact ih0 _ _ _ _ _
      | exact ih1 _ _ _ _ _
      | exact ih2 _ _ _ _ _
      | exact ih3 _ _ _ _
      | exact ih4 _ _ _ _ _ _ _ _
      | exact ih5 _ _ _ _ _ _ _ _ _ _ _
      | exact ih6 _ _ _ _ _ _ _ _ _ _
      | exact laws_joined.mono _ _ _
      | exact laws_words.mono _ _
      | exact laws_zzFits6.mono _ _
      | exact LeO.none _
      | refine LeO.ite ?_ ?_
      | refine LeO.bind ?_ (fun _ => ?_)
set_option maxHeartbeats 8000000 in
set_option maxRecDepth 100000 in
theorem laws_FnEtags.calls (k : Nat) (a0 : ByteArray) (a1 : Bool) (A2 : Option Addr) (c2 : Nat) (l2 : List ByteArray) (A3 : Option Addr) (c3 : Nat) (l3 : List Int) (r : Bool) (w : World) (hr2 : Kd.C Kd.string w A2 l2.length l2) (hc2 : l2.length ≤ c2) (hr3 : Kd.C (Kd.int .u8) w A3 l3.length l3) (hc3 : l3.length ≤ c3) (h : laws_FnEtags.f k a0 a1 l2 l3 = some r) :
    Calls Try.prog 10 #[.string a0, .bool a1, .slice A2 l2.length c2, .slice A3 l3.length c3] w fun e w' => e = .returned (.bool r) ∧ Below w.heap.size w w' := by
  have HR2 := Aside0.mk hr2
  have HC2 := Aside0.mk hc2
  clear hr2 hc2
  have HR3 := Aside0.mk hr3
  have HC3 := Aside0.mk hc3
  clear hr3 hc3
  have HB := Aside0.mk (Below.refl w.heap.size w)
  have H : (if (a0.size : Int) > 2147483647 then (laws_FnEtags.j0 k a0 a1 l2 l3 true) else ((laws_zzFits6.f k l2).bind fun t114 => (if t114 = true then (laws_FnEtags.j0 k a0 a1 l2 l3 (decide ((l3.length : Int) > 2147483647))) else (laws_FnEtags.j0 k a0 a1 l2 l3 true)))) = some r := h
  clear h
  have HC5 := Aside0.mk H
  clear H
  go_enter Try.func10, Try.ntmps10
  go_upto_region 1 with (fail)
  go_cut [27] (fun v27 wc => ∃ (kq : Nat) (x27_4 : Bool), v27 = .bool x27_4 ∧ Aside0 (laws_FnEtags.j0 kq a0 a1 l2 l3 x27_4 = some r) ∧ Aside0 (kq ≤ k) ∧ Aside0 (Below w.heap.size w wc))
  case first =>
    have H := HC5.out
    clear HC5
    by_cases c6 : (a0.size : Int) > 2147483647
    · rw [if_pos c6] at H
      have c6b0 : decide (2147483647 < (a0.size : Int)) = true := decide_eq_true c6
      have c6b1 : decide (2147483647 < a0.size) = true := decide_eq_true (by omega)
      clear c6
      (first | rw [c6b0] | (simp only [i64_w, i32_w]; rw [c6b0]) | skip)
      have H' := Aside0.mk H
      clear H
      go_wp2
      go_meet
      case rel => exact ⟨_, (true), (by first | rfl | (simp; done) | (rw [prx_ne]; first | done | rfl) | (simp [*]; done)), H', ⟨by first | omega | exact Nat.le_refl _⟩, ⟨by repeat (first | (with_reducible first | exact HB.out | apply below_alloc | apply pw_below_drewN | apply below_drew1) | exact HB.out)⟩⟩
    · rw [if_neg c6] at H
      have c6b0 : decide (2147483647 < (a0.size : Int)) = false := decide_eq_false c6
      have c6b1 : decide (2147483647 < a0.size) = false := decide_eq_false (by omega)
      clear c6
      (first | rw [c6b0] | (simp only [i64_w, i32_w]; rw [c6b0]) | skip)
      replace H := Option.bind_eq_some_iff.mp H
      obtain ⟨t114, A70, H⟩ := H
      replace H : (if t114 = true then (laws_FnEtags.j0 k a0 a1 l2 l3 (decide ((l3.length : Int) > 2147483647))) else (laws_FnEtags.j0 k a0 a1 l2 l3 true)) = some r := H
      have A7 := Aside0.mk A70
      clear A70
      by_cases c8 : t114 = true
      · subst c8
        have H1 : (laws_FnEtags.j0 k a0 a1 l2 l3 (decide ((l3.length : Int) > 2147483647))) = some r := by rw [if_pos rfl] at H; exact H
        clear H
        have H := H1
        clear H1
        have H' := Aside0.mk H
        clear H
        go_wp2_with (first | (go_at_call 27; (with_reducible refine (laws_zzFits6.calls k _ _ l2 true _ ?side1 ?side2 A7.out).mono ?_); (case side1 => repeat (first | exact (Kd.C_below HR2.out HB.out) | (with_reducible refine Kd.C_alloc ?_ _) | (with_reducible refine Kd.C_drewN ?_ _) | (with_reducible refine Kd.C_drew ?_))); (case side2 => exact HC2.out); rintro e w' ⟨rfl, ⟨nd, rfl⟩⟩))
        go_meet
        case rel => exact ⟨_, (decide ((l3.length : Int) > 2147483647)), (by first | rfl | (simp; done) | (rw [prx_ne]; first | done | rfl) | (simp [*]; done)), H', ⟨by first | omega | exact Nat.le_refl _⟩, ⟨by repeat (first | (with_reducible first | exact HB.out | apply below_alloc | apply pw_below_drewN | apply below_drew1) | exact HB.out)⟩⟩
      · replace c8 := Bool.eq_false_iff.mpr c8
        subst c8
        have H1 : (laws_FnEtags.j0 k a0 a1 l2 l3 true) = some r := by rw [if_neg (show ¬ (false = true) by decide)] at H; exact H
        clear H
        have H := H1
        clear H1
        have H' := Aside0.mk H
        clear H
        go_wp2_with (first | (go_at_call 27; (with_reducible refine (laws_zzFits6.calls k _ _ l2 false _ ?side1 ?side2 A7.out).mono ?_); (case side1 => repeat (first | exact (Kd.C_below HR2.out HB.out) | (with_reducible refine Kd.C_alloc ?_ _) | (with_reducible refine Kd.C_drewN ?_ _) | (with_reducible refine Kd.C_drew ?_))); (case side2 => exact HC2.out); rintro e w' ⟨rfl, ⟨nd, rfl⟩⟩))
        go_meet
        case rel => exact ⟨_, (true), (by first | rfl | (simp; done) | (rw [prx_ne]; first | done | rfl) | (simp [*]; done)), H', ⟨by first | omega | exact Nat.le_refl _⟩, ⟨by repeat (first | (with_reducible first | exact HB.out | apply below_alloc | apply pw_below_drewN | apply below_drew1) | exact HB.out)⟩⟩
  case rest =>
    clear HC5
    try clear c1
    try clear c2
    try clear p2
    try clear c3
    try clear c6
    try clear c6b0
    try clear c6b1
    try clear c8
    obtain ⟨kq, x27_4, rfl, HA, HJ4, HB⟩ := hcut
    cases kq with
    | zero => exact absurd HA.out (by simp [laws_FnEtags.j0])
    | succ kj4 =>
      have H := HA.out
      clear HA
      simp only [laws_FnEtags.j0] at H
      by_cases c9 : x27_4 = true
      · subst c9
        have H1 : (some true) = some r := by rw [if_pos rfl] at H; exact H
        clear H
        have H := H1
        clear H1
        obtain rfl := Option.some.inj H
        go_wp2
        go_ret
        exact ⟨by first | rfl | (simp [errW_none, errW_some] <;> rfl) | (simp [*, errW_none, errW_some] <;> rfl), by repeat (first | (with_reducible first | exact HB.out | apply below_alloc | apply pw_below_drewN | apply below_drew1) | exact HB.out)⟩
      · replace c9 := Bool.eq_false_iff.mpr c9
        subst c9
        have H1 : ((impl_EtagMatch.f (⟨#[87, 47, 34, 97, 34]⟩ : ByteArray) (⟨#[34, 97, 34]⟩ : ByteArray)).bind fun t115 => (if t115 = true then ((impl_EtagStale.f (⟨#[34, 97, 34]⟩ : ByteArray) (⟨#[34, 98, 34]⟩ : ByteArray)).bind fun t116 => (if t116 = true then ((impl_EtagStale.f (⟨#[34, 97, 34]⟩ : ByteArray) (⟨#[34, 98, 34, 44, 32, 87, 47, 34, 97, 34]⟩ : ByteArray)).bind fun t117 => (laws_FnEtags.j1 kj4 a0 a1 l2 l3 t117)) else (laws_FnEtags.j1 kj4 a0 a1 l2 l3 true))) else (laws_FnEtags.j1 kj4 a0 a1 l2 l3 true))) = some r := by rw [if_neg (show ¬ (false = true) by decide)] at H; exact H
        clear H
        have H := H1
        clear H1
        have HC10 := Aside0.mk H
        clear H
        go_upto_region 3 with (fail)
        go_cut [36] (fun v36 wc => ∃ (kq : Nat) (x36_9 : Bool), v36 = .bool x36_9 ∧ Aside0 (laws_FnEtags.j1 kq a0 a1 l2 l3 x36_9 = some r) ∧ Aside0 (kq ≤ kj4) ∧ Aside0 (Below w.heap.size w wc))
        case first =>
          have H := HC10.out
          clear HC10
          replace H := Option.bind_eq_some_iff.mp H
          obtain ⟨t115, A110, H⟩ := H
          replace H : (if t115 = true then ((impl_EtagStale.f (⟨#[34, 97, 34]⟩ : ByteArray) (⟨#[34, 98, 34]⟩ : ByteArray)).bind fun t116 => (if t116 = true then ((impl_EtagStale.f (⟨#[34, 97, 34]⟩ : ByteArray) (⟨#[34, 98, 34, 44, 32, 87, 47, 34, 97, 34]⟩ : ByteArray)).bind fun t117 => (laws_FnEtags.j1 kj4 a0 a1 l2 l3 t117)) else (laws_FnEtags.j1 kj4 a0 a1 l2 l3 true))) else (laws_FnEtags.j1 kj4 a0 a1 l2 l3 true)) = some r := H
          have A11 := Aside0.mk A110
          clear A110
          by_cases c12 : t115 = true
          · subst c12
            have H1 : ((impl_EtagStale.f (⟨#[34, 97, 34]⟩ : ByteArray) (⟨#[34, 98, 34]⟩ : ByteArray)).bind fun t116 => (if t116 = true then ((impl_EtagStale.f (⟨#[34, 97, 34]⟩ : ByteArray) (⟨#[34, 98, 34, 44, 32, 87, 47, 34, 97, 34]⟩ : ByteArray)).bind fun t117 => (laws_FnEtags.j1 kj4 a0 a1 l2 l3 t117)) else (laws_FnEtags.j1 kj4 a0 a1 l2 l3 true))) = some r := by rw [if_pos rfl] at H; exact H
            clear H
            have H := H1
            clear H1
            replace H := Option.bind_eq_some_iff.mp H
            obtain ⟨t116, A130, H⟩ := H
            replace H : (if t116 = true then ((impl_EtagStale.f (⟨#[34, 97, 34]⟩ : ByteArray) (⟨#[34, 98, 34, 44, 32, 87, 47, 34, 97, 34]⟩ : ByteArray)).bind fun t117 => (laws_FnEtags.j1 kj4 a0 a1 l2 l3 t117)) else (laws_FnEtags.j1 kj4 a0 a1 l2 l3 true)) = some r := H
            have A13 := Aside0.mk A130
            clear A130
            by_cases c14 : t116 = true
            · subst c14
              have H1 : ((impl_EtagStale.f (⟨#[34, 97, 34]⟩ : ByteArray) (⟨#[34, 98, 34, 44, 32, 87, 47, 34, 97, 34]⟩ : ByteArray)).bind fun t117 => (laws_FnEtags.j1 kj4 a0 a1 l2 l3 t117)) = some r := by rw [if_pos rfl] at H; exact H
              clear H
              have H := H1
              clear H1
              replace H := Option.bind_eq_some_iff.mp H
              obtain ⟨t117, A150, H⟩ := H
              replace H : (laws_FnEtags.j1 kj4 a0 a1 l2 l3 t117) = some r := H
              have A15 := Aside0.mk A150
              clear A150
              have H' := Aside0.mk H
              clear H
              go_wp2_with (first | ((with_reducible refine gate_callee (f := 30) rfl ?_); refine goesL_ (some 28) rfl rfl Try.func30 (by kernel_rfl) rfl #[.string (⟨#[87, 47, 34, 97, 34]⟩ : ByteArray), .string (⟨#[34, 97, 34]⟩ : ByteArray)] rfl (by (try simp only [List.map_toArray, List.map_cons, List.map_nil]); first | done | rfl | (simp only [List.length_drop, List.length_take]; rfl)) ?_; (with_reducible refine (impl_EtagMatch.calls (⟨#[87, 47, 34, 97, 34]⟩ : ByteArray) (⟨#[34, 97, 34]⟩ : ByteArray) true _ A11.out).mono ?_); rintro e w' ⟨rfl, ⟨nd, rfl⟩⟩; refine ⟨_, rfl, ?_⟩) | (go_at_call 31; (with_reducible refine (impl_EtagStale.calls (⟨#[34, 97, 34]⟩ : ByteArray) (⟨#[34, 98, 34]⟩ : ByteArray) true _ A13.out).mono ?_); rintro e w16 ⟨rfl, hb⟩; have n0_ := Aside0.mk (below_step (by repeat (first | (with_reducible first | exact HB.out | apply below_alloc | apply pw_below_drewN | apply below_drew1) | exact HB.out)) hb); clear HB; have HB := n0_; clear n0_; (try clear hb); (try clear hb2); (try clear hk); (try clear hi)) | (go_at_call 31; (with_reducible refine (impl_EtagStale.calls (⟨#[34, 97, 34]⟩ : ByteArray) (⟨#[34, 98, 34, 44, 32, 87, 47, 34, 97, 34]⟩ : ByteArray) t117 _ A15.out).mono ?_); rintro e w17 ⟨rfl, hb⟩; have n0_ := Aside0.mk (below_step (by repeat (first | (with_reducible first | exact HB.out | apply below_alloc | apply pw_below_drewN | apply below_drew1) | exact HB.out)) hb); clear HB; have HB := n0_; clear n0_; (try clear hb); (try clear hb2); (try clear hk); (try clear hi)))
              go_meet
              case rel => exact ⟨_, (t117), (by first | rfl | (simp; done) | (rw [prx_ne]; first | done | rfl) | (simp [*]; done)), H', ⟨by have := HJ4.out; first | omega | exact Nat.le_refl _⟩, ⟨by repeat (first | (with_reducible first | exact HB.out | apply below_alloc | apply pw_below_drewN | apply below_drew1) | exact HB.out)⟩⟩
            · replace c14 := Bool.eq_false_iff.mpr c14
              subst c14
              have H1 : (laws_FnEtags.j1 kj4 a0 a1 l2 l3 true) = some r := by rw [if_neg (show ¬ (false = true) by decide)] at H; exact H
              clear H
              have H := H1
              clear H1
              have H' := Aside0.mk H
              clear H
              go_wp2_with (first | ((with_reducible refine gate_callee (f := 30) rfl ?_); refine goesL_ (some 28) rfl rfl Try.func30 (by kernel_rfl) rfl #[.string (⟨#[87, 47, 34, 97, 34]⟩ : ByteArray), .string (⟨#[34, 97, 34]⟩ : ByteArray)] rfl (by (try simp only [List.map_toArray, List.map_cons, List.map_nil]); first | done | rfl | (simp only [List.length_drop, List.length_take]; rfl)) ?_; (with_reducible refine (impl_EtagMatch.calls (⟨#[87, 47, 34, 97, 34]⟩ : ByteArray) (⟨#[34, 97, 34]⟩ : ByteArray) true _ A11.out).mono ?_); rintro e w' ⟨rfl, ⟨nd, rfl⟩⟩; refine ⟨_, rfl, ?_⟩) | (go_at_call 31; (with_reducible refine (impl_EtagStale.calls (⟨#[34, 97, 34]⟩ : ByteArray) (⟨#[34, 98, 34]⟩ : ByteArray) false _ A13.out).mono ?_); rintro e w18 ⟨rfl, hb⟩; have n0_ := Aside0.mk (below_step (by repeat (first | (with_reducible first | exact HB.out | apply below_alloc | apply pw_below_drewN | apply below_drew1) | exact HB.out)) hb); clear HB; have HB := n0_; clear n0_; (try clear hb); (try clear hb2); (try clear hk); (try clear hi)))
              go_meet
              case rel => exact ⟨_, (true), (by first | rfl | (simp; done) | (rw [prx_ne]; first | done | rfl) | (simp [*]; done)), H', ⟨by have := HJ4.out; first | omega | exact Nat.le_refl _⟩, ⟨by repeat (first | (with_reducible first | exact HB.out | apply below_alloc | apply pw_below_drewN | apply below_drew1) | exact HB.out)⟩⟩
          · replace c12 := Bool.eq_false_iff.mpr c12
            subst c12
            have H1 : (laws_FnEtags.j1 kj4 a0 a1 l2 l3 true) = some r := by rw [if_neg (show ¬ (false = true) by decide)] at H; exact H
            clear H
            have H := H1
            clear H1
            have H' := Aside0.mk H
            clear H
            go_wp2_with (first | ((with_reducible refine gate_callee (f := 30) rfl ?_); refine goesL_ (some 28) rfl rfl Try.func30 (by kernel_rfl) rfl #[.string (⟨#[87, 47, 34, 97, 34]⟩ : ByteArray), .string (⟨#[34, 97, 34]⟩ : ByteArray)] rfl (by (try simp only [List.map_toArray, List.map_cons, List.map_nil]); first | done | rfl | (simp only [List.length_drop, List.length_take]; rfl)) ?_; (with_reducible refine (impl_EtagMatch.calls (⟨#[87, 47, 34, 97, 34]⟩ : ByteArray) (⟨#[34, 97, 34]⟩ : ByteArray) false _ A11.out).mono ?_); rintro e w' ⟨rfl, ⟨nd, rfl⟩⟩; refine ⟨_, rfl, ?_⟩))
            go_meet
            case rel => exact ⟨_, (true), (by first | rfl | (simp; done) | (rw [prx_ne]; first | done | rfl) | (simp [*]; done)), H', ⟨by have := HJ4.out; first | omega | exact Nat.le_refl _⟩, ⟨by repeat (first | (with_reducible first | exact HB.out | apply below_alloc | apply pw_below_drewN | apply below_drew1) | exact HB.out)⟩⟩
        case rest =>
          clear HC10
          try clear c1
          try clear c2
          try clear p2
          try clear c3
          try clear c6
          try clear c6b0
          try clear c6b1
          try clear c8
          try clear c9
          try clear c10
          try clear c12
          try clear c14
          try clear p2
          obtain ⟨kq, x36_9, rfl, HA, HJ9, HB⟩ := hcut
          cases kq with
          | zero => exact absurd HA.out (by simp [laws_FnEtags.j1])
          | succ kj9 =>
            have H := HA.out
            clear HA
            simp only [laws_FnEtags.j1] at H
            by_cases c19 : x36_9 = true
            · subst c19
              have H1 : (some false) = some r := by rw [if_pos rfl] at H; exact H
              clear H
              have H := H1
              clear H1
              obtain rfl := Option.some.inj H
              go_wp2
              go_ret
              exact ⟨by first | rfl | (simp [errW_none, errW_some] <;> rfl) | (simp [*, errW_none, errW_some] <;> rfl), by repeat (first | (with_reducible first | exact HB.out | apply below_alloc | apply pw_below_drewN | apply below_drew1) | exact HB.out)⟩
            · replace c19 := Bool.eq_false_iff.mpr c19
              subst c19
              have H1 : ((laws_words.f kj9 (([a0] : List ByteArray))).bind fun t121 => (if t121 = true then (if (l2.length : Int) = 0 then (laws_FnEtags.j2 kj9 a0 a1 l2 l3 true) else ((laws_words.f kj9 l2).bind fun t122 => (laws_FnEtags.j2 kj9 a0 a1 l2 l3 (!t122)))) else (laws_FnEtags.j2 kj9 a0 a1 l2 l3 true))) = some r := by rw [if_neg (show ¬ (false = true) by decide)] at H; exact H
              clear H
              have H := H1
              clear H1
              have HC20 := Aside0.mk H
              clear H
              go_upto_region 5 with (fail)
              go_cut [50] (fun v50 wc => ∃ (kq : Nat) (x50_19 : Bool), v50 = .bool x50_19 ∧ Aside0 (laws_FnEtags.j2 kq a0 a1 l2 l3 x50_19 = some r) ∧ Aside0 (kq ≤ kj9) ∧ Aside0 (Below w.heap.size w wc))
              case first =>
                have H := HC20.out
                clear HC20
                obtain ⟨y118, hy118⟩ : ∃ y_ : List ByteArray, y_ = (([a0] : List ByteArray)) := ⟨_, rfl⟩
                replace H : ((laws_words.f kj9 y118).bind fun t121 => (if t121 = true then (if (l2.length : Int) = 0 then (laws_FnEtags.j2 kj9 a0 a1 l2 l3 true) else ((laws_words.f kj9 l2).bind fun t122 => (laws_FnEtags.j2 kj9 a0 a1 l2 l3 (!t122)))) else (laws_FnEtags.j2 kj9 a0 a1 l2 l3 true))) = some r := by first | (rw [hy118]; with_reducible exact H) | (have H2_ := (Option.bind_some _ _).symm.trans H; rw [hy118]; with_reducible exact H2_) | (have H2_ := (Option.bind_some _ _).symm.trans H; with_reducible exact H2_) | with_reducible exact H | (rw [hy118]; exact H) | exact H
                have Ny118 := Aside0.mk hy118
                clear hy118
                replace H := Option.bind_eq_some_iff.mp H
                obtain ⟨t121, A210, H⟩ := H
                replace H : (if t121 = true then (if (l2.length : Int) = 0 then (laws_FnEtags.j2 kj9 a0 a1 l2 l3 true) else ((laws_words.f kj9 l2).bind fun t122 => (laws_FnEtags.j2 kj9 a0 a1 l2 l3 (!t122)))) else (laws_FnEtags.j2 kj9 a0 a1 l2 l3 true)) = some r := H
                have A21 := Aside0.mk A210
                clear A210
                by_cases c22 : t121 = true
                · subst c22
                  have H1 : (if (l2.length : Int) = 0 then (laws_FnEtags.j2 kj9 a0 a1 l2 l3 true) else ((laws_words.f kj9 l2).bind fun t122 => (laws_FnEtags.j2 kj9 a0 a1 l2 l3 (!t122)))) = some r := by rw [if_pos rfl] at H; exact H
                  clear H
                  have H := H1
                  clear H1
                  by_cases c23 : (l2.length : Int) = 0
                  · rw [if_pos c23] at H
                    have c23b0 : ((l2.length : Int) == 0) = true := beq_iff_eq.mpr c23
                    have c23b1 : ((l2.length : Int) != 0) = false := bne_eq_false_iff_eq.mpr c23
                    clear c23
                    (first | rw [c23b0] | (simp only [i64_w, i32_w]; rw [c23b0]) | skip)
                    have H' := Aside0.mk H
                    clear H
                    go_wp2_with (first | ((with_reducible refine gate_dst (N := 38) rfl ?_); (try (refine gate_guard (by rfl) ?_; dsimp only)); refine Kd.R_lit Kd.string _ 9 ?hg (N := 38) ?hd (xs := ([a0] : List ByteArray)) (inner := [.string a0]) (ok := fun _ => True) (okp := fun _ => True) ?hr ?hp (fun _ hk => hk) trivial (Below.refl _ _) (Nat.le_refl _) (by simp) ?_; (case hd => rfl); (case hg => rfl); (case hr => first | (go_simp; done) | (go_simp; rfl)); (case hp => exact (Reps.one (show Kd.M Kd.string _ _ _ a0 [.string a0] from rfl) (Reps.none _ _))); intro v119 w24 ho25 hb hg_ hnew_; clear hg_ hnew_; (first | rw [← Ny118.out] at ho25 | (simp only [Int.reduceToNat] at ho25; rw [← Ny118.out] at ho25)); have n0_ := Aside0.mk (Kd.R_lower ho25 (below_size (by repeat (first | (with_reducible first | exact HB.out | apply below_alloc | apply pw_below_drewN | apply below_drew1) | exact HB.out)))); have n1_ := Aside0.mk (below_step (by repeat (first | (with_reducible first | exact HB.out | apply below_alloc | apply pw_below_drewN | apply below_drew1) | exact HB.out)) hb); clear HB; have HO120 := n0_; have HB := n1_; clear n0_ n1_; clear hb ho25; obtain ⟨Ao26, co26, eo26⟩ := Kd.R_slice HO120.out; subst eo26) | ((with_reducible refine gate_callee (f := 14) rfl ?_); refine goesL_ (some 39) rfl rfl Try.func14 (by kernel_rfl) rfl #[.slice Ao26 y118.length co26] rfl (by (try simp only [List.map_toArray, List.map_cons, List.map_nil]); first | done | rfl | (simp only [List.length_drop, List.length_take]; rfl)) ?_; (with_reducible refine (laws_words.calls kj9 _ _ y118 true _ ?side1 ?side2 A21.out).mono ?_); (case side1 => repeat (first | exact (Kd.R_reads' HO120.out).2.2 | (with_reducible refine Kd.C_alloc ?_ _) | (with_reducible refine Kd.C_drewN ?_ _) | (with_reducible refine Kd.C_drew ?_))); (case side2 => exact (Kd.R_reads' HO120.out).2.1); rintro e w' ⟨rfl, ⟨nd, rfl⟩⟩; refine ⟨_, rfl, ?_⟩))
                    go_meet
                    case rel => exact ⟨_, (true), (by first | rfl | (simp; done) | (rw [prx_ne]; first | done | rfl) | (simp [*]; done)), H', ⟨by have := HJ4.out; have := HJ9.out; first | omega | exact Nat.le_refl _⟩, ⟨by repeat (first | (with_reducible first | exact HB.out | apply below_alloc | apply pw_below_drewN | apply below_drew1) | exact HB.out)⟩⟩
                  · rw [if_neg c23] at H
                    have c23b0 : ((l2.length : Int) == 0) = false := beq_eq_false_iff_ne.mpr c23
                    have c23b1 : ((l2.length : Int) != 0) = true := bne_iff_ne.mpr c23
                    have c23b2 : ¬ (l2 = []) := fun h_ => c23 (by rw [h_]; rfl)
                    (first | rw [c23b0] | (simp only [i64_w, i32_w]; rw [c23b0]) | skip)
                    replace H := Option.bind_eq_some_iff.mp H
                    obtain ⟨t122, A270, H⟩ := H
                    replace H : (laws_FnEtags.j2 kj9 a0 a1 l2 l3 (!t122)) = some r := H
                    have A27 := Aside0.mk A270
                    clear A270
                    have H' := Aside0.mk H
                    clear H
                    go_wp2_with (first | ((with_reducible refine gate_dst (N := 38) rfl ?_); (try (refine gate_guard (by rfl) ?_; dsimp only)); refine Kd.R_lit Kd.string _ 9 ?hg (N := 38) ?hd (xs := ([a0] : List ByteArray)) (inner := [.string a0]) (ok := fun _ => True) (okp := fun _ => True) ?hr ?hp (fun _ hk => hk) trivial (Below.refl _ _) (Nat.le_refl _) (by simp) ?_; (case hd => rfl); (case hg => rfl); (case hr => first | (go_simp; done) | (go_simp; rfl)); (case hp => exact (Reps.one (show Kd.M Kd.string _ _ _ a0 [.string a0] from rfl) (Reps.none _ _))); intro v119 w28 ho29 hb hg_ hnew_; clear hg_ hnew_; (first | rw [← Ny118.out] at ho29 | (simp only [Int.reduceToNat] at ho29; rw [← Ny118.out] at ho29)); have n0_ := Aside0.mk (Kd.R_lower ho29 (below_size (by repeat (first | (with_reducible first | exact HB.out | apply below_alloc | apply pw_below_drewN | apply below_drew1) | exact HB.out)))); have n1_ := Aside0.mk (below_step (by repeat (first | (with_reducible first | exact HB.out | apply below_alloc | apply pw_below_drewN | apply below_drew1) | exact HB.out)) hb); clear HB; have HO120 := n0_; have HB := n1_; clear n0_ n1_; clear hb ho29; obtain ⟨Ao30, co30, eo30⟩ := Kd.R_slice HO120.out; subst eo30) | ((with_reducible refine gate_callee (f := 14) rfl ?_); refine goesL_ (some 39) rfl rfl Try.func14 (by kernel_rfl) rfl #[.slice Ao30 y118.length co30] rfl (by (try simp only [List.map_toArray, List.map_cons, List.map_nil]); first | done | rfl | (simp only [List.length_drop, List.length_take]; rfl)) ?_; (with_reducible refine (laws_words.calls kj9 _ _ y118 true _ ?side1 ?side2 A21.out).mono ?_); (case side1 => repeat (first | exact (Kd.R_reads' HO120.out).2.2 | (with_reducible refine Kd.C_alloc ?_ _) | (with_reducible refine Kd.C_drewN ?_ _) | (with_reducible refine Kd.C_drew ?_))); (case side2 => exact (Kd.R_reads' HO120.out).2.1); rintro e w' ⟨rfl, ⟨nd, rfl⟩⟩; refine ⟨_, rfl, ?_⟩) | (go_at_call 14; (with_reducible refine (laws_words.calls kj9 _ _ l2 t122 _ ?side1 ?side2 A27.out).mono ?_); (case side1 => repeat (first | exact (Kd.C_below HR2.out (by repeat (first | (with_reducible first | exact HB.out | apply below_alloc | apply pw_below_drewN | apply below_drew1) | exact HB.out))) | (with_reducible refine Kd.C_alloc ?_ _) | (with_reducible refine Kd.C_drewN ?_ _) | (with_reducible refine Kd.C_drew ?_))); (case side2 => exact HC2.out); rintro e w' ⟨rfl, ⟨nd, rfl⟩⟩))
                    go_meet
                    case rel => exact ⟨_, (!t122), (by first | rfl | (simp; done) | (rw [prx_ne]; first | done | rfl) | (simp [*]; done)), H', ⟨by have := HJ4.out; have := HJ9.out; first | omega | exact Nat.le_refl _⟩, ⟨by repeat (first | (with_reducible first | exact HB.out | apply below_alloc | apply pw_below_drewN | apply below_drew1) | exact HB.out)⟩⟩
                · replace c22 := Bool.eq_false_iff.mpr c22
                  subst c22
                  have H1 : (laws_FnEtags.j2 kj9 a0 a1 l2 l3 true) = some r := by rw [if_neg (show ¬ (false = true) by decide)] at H; exact H
                  clear H
                  have H := H1
                  clear H1
                  have H' := Aside0.mk H
                  clear H
                  go_wp2_with (first | ((with_reducible refine gate_dst (N := 38) rfl ?_); (try (refine gate_guard (by rfl) ?_; dsimp only)); refine Kd.R_lit Kd.string _ 9 ?hg (N := 38) ?hd (xs := ([a0] : List ByteArray)) (inner := [.string a0]) (ok := fun _ => True) (okp := fun _ => True) ?hr ?hp (fun _ hk => hk) trivial (Below.refl _ _) (Nat.le_refl _) (by simp) ?_; (case hd => rfl); (case hg => rfl); (case hr => first | (go_simp; done) | (go_simp; rfl)); (case hp => exact (Reps.one (show Kd.M Kd.string _ _ _ a0 [.string a0] from rfl) (Reps.none _ _))); intro v119 w31 ho32 hb hg_ hnew_; clear hg_ hnew_; (first | rw [← Ny118.out] at ho32 | (simp only [Int.reduceToNat] at ho32; rw [← Ny118.out] at ho32)); have n0_ := Aside0.mk (Kd.R_lower ho32 (below_size (by repeat (first | (with_reducible first | exact HB.out | apply below_alloc | apply pw_below_drewN | apply below_drew1) | exact HB.out)))); have n1_ := Aside0.mk (below_step (by repeat (first | (with_reducible first | exact HB.out | apply below_alloc | apply pw_below_drewN | apply below_drew1) | exact HB.out)) hb); clear HB; have HO120 := n0_; have HB := n1_; clear n0_ n1_; clear hb ho32; obtain ⟨Ao33, co33, eo33⟩ := Kd.R_slice HO120.out; subst eo33) | ((with_reducible refine gate_callee (f := 14) rfl ?_); refine goesL_ (some 39) rfl rfl Try.func14 (by kernel_rfl) rfl #[.slice Ao33 y118.length co33] rfl (by (try simp only [List.map_toArray, List.map_cons, List.map_nil]); first | done | rfl | (simp only [List.length_drop, List.length_take]; rfl)) ?_; (with_reducible refine (laws_words.calls kj9 _ _ y118 false _ ?side1 ?side2 A21.out).mono ?_); (case side1 => repeat (first | exact (Kd.R_reads' HO120.out).2.2 | (with_reducible refine Kd.C_alloc ?_ _) | (with_reducible refine Kd.C_drewN ?_ _) | (with_reducible refine Kd.C_drew ?_))); (case side2 => exact (Kd.R_reads' HO120.out).2.1); rintro e w' ⟨rfl, ⟨nd, rfl⟩⟩; refine ⟨_, rfl, ?_⟩))
                  go_meet
                  case rel => exact ⟨_, (true), (by first | rfl | (simp; done) | (rw [prx_ne]; first | done | rfl) | (simp [*]; done)), H', ⟨by have := HJ4.out; have := HJ9.out; first | omega | exact Nat.le_refl _⟩, ⟨by repeat (first | (with_reducible first | exact HB.out | apply below_alloc | apply pw_below_drewN | apply below_drew1) | exact HB.out)⟩⟩
              case rest =>
                clear HC20
                try clear c1
                try clear c2
                try clear p2
                try clear c3
                try clear c6
                try clear c6b0
                try clear c6b1
                try clear c8
                try clear c9
                try clear c10
                try clear c12
                try clear c14
                try clear c19
                try clear c22
                try clear c23
                try clear c23b0
                try clear c23b1
                try clear c23b2
                try clear c30
                try clear p2
                obtain ⟨kq, x50_19, rfl, HA, HJ19, HB⟩ := hcut
                cases kq with
                | zero => exact absurd HA.out (by simp [laws_FnEtags.j2])
                | succ kj19 =>
                  have H := HA.out
                  clear HA
                  simp only [laws_FnEtags.j2] at H
                  by_cases c34 : x50_19 = true
                  · subst c34
                    have H1 : (some true) = some r := by rw [if_pos rfl] at H; exact H
                    clear H
                    have H := H1
                    clear H1
                    obtain rfl := Option.some.inj H
                    go_wp2
                    go_ret
                    exact ⟨by first | rfl | (simp [errW_none, errW_some] <;> rfl) | (simp [*, errW_none, errW_some] <;> rfl), by repeat (first | (with_reducible first | exact HB.out | apply below_alloc | apply pw_below_drewN | apply below_drew1) | exact HB.out)⟩
                  · replace c34 := Bool.eq_false_iff.mpr c34
                    subst c34
                    have H1 : (if 1 + a0.size ≤ 9223372036854775807 then (if ((⟨#[34]⟩ : ByteArray) ++ a0).size + 1 ≤ 9223372036854775807 then (if a1 = true then (if 2 + (((⟨#[34]⟩ : ByteArray) ++ a0) ++ (⟨#[34]⟩ : ByteArray)).size ≤ 9223372036854775807 then (laws_FnEtags.j3 kj19 a0 l2 l3 ((⟨#[87, 47]⟩ : ByteArray) ++ (((⟨#[34]⟩ : ByteArray) ++ a0) ++ (⟨#[34]⟩ : ByteArray)))) else (none)) else (laws_FnEtags.j3 kj19 a0 l2 l3 (((⟨#[34]⟩ : ByteArray) ++ a0) ++ (⟨#[34]⟩ : ByteArray)))) else (none)) else (none)) = some r := by rw [if_neg (show ¬ (false = true) by decide)] at H; exact H
                    clear H
                    have H := H1
                    clear H1
                    by_cases c35 : 1 + a0.size ≤ 9223372036854775807
                    · rw [if_pos c35] at H
                      have c35b0 := eq_true c35
                      have c35b1 : decide (1 + a0.size ≤ 9223372036854775807) = true := decide_eq_true c35
                      try have c35b2 : (9223372036854775807 < 1 + a0.size) = False := eq_false (Nat.not_lt.2 c35)
                      try (have c35b3 := c35; simp only [ByteArray.size_append, prx_sz, List.length_cons, List.length_nil] at c35b3)
                      by_cases c36 : ((⟨#[34]⟩ : ByteArray) ++ a0).size + 1 ≤ 9223372036854775807
                      · rw [if_pos c36] at H
                        have c36b0 := eq_true c36
                        have c36b1 : decide (((⟨#[34]⟩ : ByteArray) ++ a0).size + 1 ≤ 9223372036854775807) = true := decide_eq_true c36
                        try have c36b2 : (9223372036854775807 < ((⟨#[34]⟩ : ByteArray) ++ a0).size + 1) = False := eq_false (Nat.not_lt.2 c36)
                        try (have c36b3 := c36; simp only [ByteArray.size_append, prx_sz, List.length_cons, List.length_nil] at c36b3)
                        have HC37 := Aside0.mk H
                        clear H
                        go_upto_if 54 with (fail)
                        go_cut [9] (fun v9 wc => ∃ (kq : Nat) (x9_36 : ByteArray), v9 = .string x9_36 ∧ Aside0 (laws_FnEtags.j3 kq a0 l2 l3 x9_36 = some r) ∧ Aside0 (kq ≤ kj19) ∧ Aside0 (Below w.heap.size w wc))
                        case first =>
                          have H := HC37.out
                          clear HC37
                          by_cases c38 : a1 = true
                          · subst c38
                            have H1 : (if 2 + (((⟨#[34]⟩ : ByteArray) ++ a0) ++ (⟨#[34]⟩ : ByteArray)).size ≤ 9223372036854775807 then (laws_FnEtags.j3 kj19 a0 l2 l3 ((⟨#[87, 47]⟩ : ByteArray) ++ (((⟨#[34]⟩ : ByteArray) ++ a0) ++ (⟨#[34]⟩ : ByteArray)))) else (none)) = some r := by rw [if_pos rfl] at H; exact H
                            clear H
                            have H := H1
                            clear H1
                            by_cases c39 : 2 + (((⟨#[34]⟩ : ByteArray) ++ a0) ++ (⟨#[34]⟩ : ByteArray)).size ≤ 9223372036854775807
                            · rw [if_pos c39] at H
                              have c39b0 := eq_true c39
                              have c39b1 : decide (2 + (((⟨#[34]⟩ : ByteArray) ++ a0) ++ (⟨#[34]⟩ : ByteArray)).size ≤ 9223372036854775807) = true := decide_eq_true c39
                              try have c39b2 : (9223372036854775807 < 2 + (((⟨#[34]⟩ : ByteArray) ++ a0) ++ (⟨#[34]⟩ : ByteArray)).size) = False := eq_false (Nat.not_lt.2 c39)
                              try (have c39b3 := c39; simp only [ByteArray.size_append, prx_sz, List.length_cons, List.length_nil] at c39b3)
                              have H' := Aside0.mk H
                              clear H
                              go_wp2
                              go_meet
                              case rel => exact ⟨_, ((⟨#[87, 47]⟩ : ByteArray) ++ (((⟨#[34]⟩ : ByteArray) ++ a0) ++ (⟨#[34]⟩ : ByteArray))), (by first | rfl | (simp; done) | (rw [prx_ne]; first | done | rfl) | (simp [*]; done)), H', ⟨by have := HJ4.out; have := HJ9.out; have := HJ19.out; first | omega | exact Nat.le_refl _⟩, ⟨by repeat (first | (with_reducible first | exact HB.out | apply below_alloc | apply pw_below_drewN | apply below_drew1) | exact HB.out)⟩⟩
                            · rw [if_neg c39] at H
                              exact absurd H (by simp)
                          · replace c38 := Bool.eq_false_iff.mpr c38
                            subst c38
                            have H1 : (laws_FnEtags.j3 kj19 a0 l2 l3 (((⟨#[34]⟩ : ByteArray) ++ a0) ++ (⟨#[34]⟩ : ByteArray))) = some r := by rw [if_neg (show ¬ (false = true) by decide)] at H; exact H
                            clear H
                            have H := H1
                            clear H1
                            have H' := Aside0.mk H
                            clear H
                            go_wp2
                            go_meet
                            case rel => exact ⟨_, (((⟨#[34]⟩ : ByteArray) ++ a0) ++ (⟨#[34]⟩ : ByteArray)), (by first | rfl | (simp; done) | (rw [prx_ne]; first | done | rfl) | (simp [*]; done)), H', ⟨by have := HJ4.out; have := HJ9.out; have := HJ19.out; first | omega | exact Nat.le_refl _⟩, ⟨by repeat (first | (with_reducible first | exact HB.out | apply below_alloc | apply pw_below_drewN | apply below_drew1) | exact HB.out)⟩⟩
                        case rest =>
                          clear HC37
                          try clear c1
                          try clear c2
                          try clear p2
                          try clear c3
                          try clear c6
                          try clear c6b0
                          try clear c6b1
                          try clear c8
                          try clear c9
                          try clear c10
                          try clear c12
                          try clear c14
                          try clear c19
                          try clear c22
                          try clear c23
                          try clear c23b0
                          try clear c23b1
                          try clear c23b2
                          try clear c30
                          try clear c34
                          try clear c35
                          try clear c35b0
                          try clear c35b1
                          try clear c35b2
                          try clear c36
                          try clear c36b0
                          try clear c36b1
                          try clear c36b2
                          try clear c38
                          try clear c39
                          try clear c39b0
                          try clear c39b1
                          try clear c39b2
                          try clear p2
                          obtain ⟨kq, x9_36, rfl, HA, HJ36, HB⟩ := hcut
                          cases kq with
                          | zero => exact absurd HA.out (by simp [laws_FnEtags.j3])
                          | succ kj36 =>
                            have H := HA.out
                            clear HA
                            simp only [laws_FnEtags.j3] at H
                            have H' := Aside0.mk H
                            clear H
                            go_wp2
                            go_loopg [10, 11, 59] kj36 (fun kq v10 v11 v59 w' => ∃ (x10_5 : List ByteArray) (x11_5 : Bool) (x59_5 : Int), v11 = .bool x11_5 ∧ v59 = .int .i64 x59_5 ∧ Aside0 (laws_FnEtags.l0 kq a0 l3 x9_36 x10_5 x11_5 l2 (l2.length : Int) x59_5 = some r) ∧ Aside0 (kq ≤ kj36) ∧ Aside0 (Kd.R Kd.string 9 w' w.heap.size (fun _ => True) v10 x10_5) ∧ Aside0 (Below w.heap.size w w'))
                            case atStart => exact ⟨(([] : List ByteArray)), (true), (0), (by first | rfl | (simp; done) | (rw [prx_ne]; first | done | rfl) | (simp [*]; done)), (by first | rfl | (simp; done) | (rw [prx_ne]; first | done | rfl) | (simp [*]; done)), H', ⟨Nat.le_refl _⟩, ⟨by first | exact Kd.R_nil _ _ _ _ _ | exact Kd.N_nil _ _ _ _ _ | exact Kd.V_nil _ _ _ _ _ | exact Kd.Q_nil _ _ _ _ _ | exact Kd.S_nil _ _ _ _ _⟩, ⟨by repeat (first | (with_reducible first | exact HB.out | apply below_alloc | apply pw_below_drewN | apply below_drew1) | exact HB.out)⟩⟩
                            case round =>
                              clear H'
                              try clear c1
                              try clear c2
                              try clear p2
                              try clear c3
                              try clear c6
                              try clear c6b0
                              try clear c6b1
                              try clear c8
                              try clear c9
                              try clear c10
                              try clear c12
                              try clear c14
                              try clear c19
                              try clear c22
                              try clear c23
                              try clear c23b0
                              try clear c23b1
                              try clear c23b2
                              try clear c30
                              try clear c34
                              try clear c35
                              try clear c35b0
                              try clear c35b1
                              try clear c35b2
                              try clear c36
                              try clear c36b0
                              try clear c36b1
                              try clear c36b2
                              try clear c38
                              try clear c39
                              try clear c39b0
                              try clear c39b1
                              try clear c39b2
                              try clear p2
                              obtain ⟨x10_5, x11_5, x59_5, rfl, rfl, HA, HK5, HO_10, HB⟩ := hrel
                              cases gk with
                              | zero => exact absurd HA.out (by simp [laws_FnEtags.l0])
                              | succ k5 =>
                                have H := HA.out
                                clear HA
                                simp only [laws_FnEtags.l0] at H
                                by_cases c40 : x59_5 < (l2.length : Int)
                                · rw [if_pos c40] at H
                                  have c40b0 : decide (x59_5 < (l2.length : Int)) = true := decide_eq_true c40
                                  clear c40
                                  by_cases c41 : 0 ≤ x59_5
                                  · rw [if_pos c41] at H
                                    have c41b0 : decide (0 ≤ x59_5) = true := decide_eq_true c41
                                    clear c41
                                    by_cases c42 : x59_5 < (l2.length : Int)
                                    · rw [if_pos c42] at H
                                      have c42b0 : decide (x59_5 < (l2.length : Int)) = true := decide_eq_true c42
                                      clear c42
                                      by_cases c43 : 1 + (rdOf ByteArray.empty l2 x59_5).size ≤ 9223372036854775807
                                      · rw [if_pos c43] at H
                                        have c43b0 := eq_true c43
                                        have c43b1 : decide (1 + (rdOf ByteArray.empty l2 x59_5).size ≤ 9223372036854775807) = true := decide_eq_true c43
                                        try have c43b2 : (9223372036854775807 < 1 + (rdOf ByteArray.empty l2 x59_5).size) = False := eq_false (Nat.not_lt.2 c43)
                                        try (have c43b3 := c43; simp only [ByteArray.size_append, prx_sz, List.length_cons, List.length_nil] at c43b3)
                                        by_cases c44 : ((⟨#[34]⟩ : ByteArray) ++ (rdOf ByteArray.empty l2 x59_5)).size + 1 ≤ 9223372036854775807
                                        · rw [if_pos c44] at H
                                          have c44b0 := eq_true c44
                                          have c44b1 : decide (((⟨#[34]⟩ : ByteArray) ++ (rdOf ByteArray.empty l2 x59_5)).size + 1 ≤ 9223372036854775807) = true := decide_eq_true c44
                                          try have c44b2 : (9223372036854775807 < ((⟨#[34]⟩ : ByteArray) ++ (rdOf ByteArray.empty l2 x59_5)).size + 1) = False := eq_false (Nat.not_lt.2 c44)
                                          try (have c44b3 := c44; simp only [ByteArray.size_append, prx_sz, List.length_cons, List.length_nil] at c44b3)
                                          have HC45 := Aside0.mk H
                                          clear H
                                          have p123 : 0 ≤ (x59_5 : Int) := of_decide_eq_true (by first | (with_reducible assumption) | assumption)
                                          have q123 : x59_5 < (l2.length : Int) := of_decide_eq_true (by first | (with_reducible assumption) | assumption)
                                          obtain ⟨ad123, e123, hx123_0⟩ := Kd.at_string HR2.out x59_5 p123 q123
                                          cases e123
                                          replace hx123_0 := (HB.out.cell (World.block_lt_of_cell? w _ hx123_0)).trans hx123_0
                                          replace p123 := eq_true p123
                                          replace q123 := eq_true q123
                                          go_upto_region 16 with (fail)
                                          go_cut [78] (fun v78 wc => ∃ (kq : Nat) (x78_44 : Bool), v78 = .bool x78_44 ∧ Aside0 (laws_FnEtags.j5 kq a0 l3 x9_36 x10_5 x11_5 (rdOf ByteArray.empty l2 x59_5) (((⟨#[34]⟩ : ByteArray) ++ (rdOf ByteArray.empty l2 x59_5)) ++ (⟨#[34]⟩ : ByteArray)) l2 (l2.length : Int) x59_5 x78_44 = some r) ∧ Aside0 (kq ≤ k5) ∧ Aside0 (Kd.R Kd.string 9 wc w.heap.size (fun _ => True) u10 x10_5) ∧ Aside0 (Below w.heap.size w wc))
                                          case first =>
                                            have H := HC45.out
                                            clear HC45
                                            by_cases c46 : x59_5 < (l3.length : Int)
                                            · rw [if_pos c46] at H
                                              have c46b0 : decide (x59_5 < (l3.length : Int)) = true := decide_eq_true c46
                                              clear c46
                                              (first | rw [c46b0] | (simp only [i64_w, i32_w]; rw [c46b0]) | skip)
                                              have H' := Aside0.mk H
                                              clear H
                                              have p124 : 0 ≤ (x59_5 : Int) := of_decide_eq_true (by first | (with_reducible assumption) | assumption)
                                              have q124 : x59_5 < (l3.length : Int) := of_decide_eq_true (by first | (with_reducible assumption) | assumption)
                                              obtain ⟨ad124, e124, hx124_0⟩ := Kd.at_int HR3.out x59_5 p124 q124
                                              cases e124
                                              replace hx124_0 := (HB.out.cell (World.block_lt_of_cell? w _ hx124_0)).trans hx124_0
                                              replace p124 := eq_true p124
                                              replace q124 := eq_true q124
                                              go_wp2
                                              go_meet
                                              case rel => exact ⟨_, (((Int.tmod (rd l3 x59_5) 2) == 1)), (by first | rfl | (simp; done) | (rw [prx_ne]; first | done | rfl) | (simp [*]; done)), H', ⟨by have := HJ4.out; have := HJ9.out; have := HJ19.out; have := HJ36.out; have := HK5.out; first | omega | exact Nat.le_refl _⟩, ⟨by (with_reducible repeat (first | apply Kd.R_alloc | apply Kd.R_drewN | apply Kd.R_drew)); exact HO_10.out⟩, ⟨by repeat (first | (with_reducible first | exact HB.out | apply below_alloc | apply pw_below_drewN | apply below_drew1) | exact HB.out)⟩⟩
                                            · rw [if_neg c46] at H
                                              have c46b0 : decide (x59_5 < (l3.length : Int)) = false := decide_eq_false c46
                                              clear c46
                                              (first | rw [c46b0] | (simp only [i64_w, i32_w]; rw [c46b0]) | skip)
                                              have H' := Aside0.mk H
                                              clear H
                                              go_wp2
                                              go_meet
                                              case rel => exact ⟨_, (false), (by first | rfl | (simp; done) | (rw [prx_ne]; first | done | rfl) | (simp [*]; done)), H', ⟨by have := HJ4.out; have := HJ9.out; have := HJ19.out; have := HJ36.out; have := HK5.out; first | omega | exact Nat.le_refl _⟩, ⟨by (with_reducible repeat (first | apply Kd.R_alloc | apply Kd.R_drewN | apply Kd.R_drew)); exact HO_10.out⟩, ⟨by repeat (first | (with_reducible first | exact HB.out | apply below_alloc | apply pw_below_drewN | apply below_drew1) | exact HB.out)⟩⟩
                                          case rest =>
                                            clear HC45
                                            try clear c1
                                            try clear p1
                                            try clear q1
                                            try clear hx1
                                            try clear c2
                                            try clear p2
                                            try clear c3
                                            try clear c4
                                            try clear c6
                                            try clear c6b0
                                            try clear c6b1
                                            try clear c8
                                            try clear c9
                                            try clear c10
                                            try clear c12
                                            try clear p12
                                            try clear q12
                                            try clear hx12
                                            try clear c14
                                            try clear c19
                                            try clear c22
                                            try clear c23
                                            try clear c23b0
                                            try clear c23b1
                                            try clear c23b2
                                            try clear c30
                                            try clear c34
                                            try clear c35
                                            try clear c35b0
                                            try clear c35b1
                                            try clear c35b2
                                            try clear c36
                                            try clear c36b0
                                            try clear c36b1
                                            try clear c36b2
                                            try clear c38
                                            try clear c39
                                            try clear c39b0
                                            try clear c39b1
                                            try clear c39b2
                                            try clear c40
                                            try clear c40b0
                                            try clear c41
                                            try clear c41b0
                                            try clear c42
                                            try clear c42b0
                                            try clear c43
                                            try clear c43b0
                                            try clear c43b1
                                            try clear c43b2
                                            try clear c44
                                            try clear c44b0
                                            try clear c44b1
                                            try clear c44b2
                                            try clear c46
                                            try clear c46b0
                                            try clear hx123_0
                                            try clear hx124_0
                                            try clear p123
                                            try clear p124
                                            try clear p2
                                            try clear q123
                                            try clear q124
                                            obtain ⟨kq, x78_44, rfl, HA, HJ44, HO_10, HB⟩ := hcut
                                            cases kq with
                                            | zero => exact absurd HA.out (by simp [laws_FnEtags.j5])
                                            | succ kj44 =>
                                              have H := HA.out
                                              clear HA
                                              simp only [laws_FnEtags.j5] at H
                                              have HC47 := Aside0.mk H
                                              clear H
                                              go_upto_if 78 with (fail)
                                              go_cut [14] (fun v14 wc => ∃ (kq : Nat) (x14_46 : ByteArray), v14 = .string x14_46 ∧ Aside0 (laws_FnEtags.j6 kq a0 l3 x9_36 x10_5 x11_5 (rdOf ByteArray.empty l2 x59_5) x14_46 l2 (l2.length : Int) x59_5 = some r) ∧ Aside0 (kq ≤ kj44) ∧ Aside0 (Kd.R Kd.string 9 wc w.heap.size (fun _ => True) u10 x10_5) ∧ Aside0 (Below w.heap.size w wc))
                                              case first =>
                                                have H := HC47.out
                                                clear HC47
                                                by_cases c48 : x78_44 = true
                                                · subst c48
                                                  have H1 : (if 2 + (((⟨#[34]⟩ : ByteArray) ++ (rdOf ByteArray.empty l2 x59_5)) ++ (⟨#[34]⟩ : ByteArray)).size ≤ 9223372036854775807 then (laws_FnEtags.j6 kj44 a0 l3 x9_36 x10_5 x11_5 (rdOf ByteArray.empty l2 x59_5) ((⟨#[87, 47]⟩ : ByteArray) ++ (((⟨#[34]⟩ : ByteArray) ++ (rdOf ByteArray.empty l2 x59_5)) ++ (⟨#[34]⟩ : ByteArray))) l2 (l2.length : Int) x59_5) else (none)) = some r := by rw [if_pos rfl] at H; exact H
                                                  clear H
                                                  have H := H1
                                                  clear H1
                                                  by_cases c49 : 2 + (((⟨#[34]⟩ : ByteArray) ++ (rdOf ByteArray.empty l2 x59_5)) ++ (⟨#[34]⟩ : ByteArray)).size ≤ 9223372036854775807
                                                  · rw [if_pos c49] at H
                                                    have c49b0 := eq_true c49
                                                    have c49b1 : decide (2 + (((⟨#[34]⟩ : ByteArray) ++ (rdOf ByteArray.empty l2 x59_5)) ++ (⟨#[34]⟩ : ByteArray)).size ≤ 9223372036854775807) = true := decide_eq_true c49
                                                    try have c49b2 : (9223372036854775807 < 2 + (((⟨#[34]⟩ : ByteArray) ++ (rdOf ByteArray.empty l2 x59_5)) ++ (⟨#[34]⟩ : ByteArray)).size) = False := eq_false (Nat.not_lt.2 c49)
                                                    try (have c49b3 := c49; simp only [ByteArray.size_append, prx_sz, List.length_cons, List.length_nil] at c49b3)
                                                    have H' := Aside0.mk H
                                                    clear H
                                                    go_wp2
                                                    go_meet
                                                    case rel => exact ⟨_, ((⟨#[87, 47]⟩ : ByteArray) ++ (((⟨#[34]⟩ : ByteArray) ++ (rdOf ByteArray.empty l2 x59_5)) ++ (⟨#[34]⟩ : ByteArray))), (by first | rfl | (simp; done) | (rw [prx_ne]; first | done | rfl) | (simp [*]; done)), H', ⟨by have := HJ4.out; have := HJ9.out; have := HJ19.out; have := HJ36.out; have := HK5.out; have := HJ44.out; first | omega | exact Nat.le_refl _⟩, ⟨by (with_reducible repeat (first | apply Kd.R_alloc | apply Kd.R_drewN | apply Kd.R_drew)); exact HO_10.out⟩, ⟨by repeat (first | (with_reducible first | exact HB.out | apply below_alloc | apply pw_below_drewN | apply below_drew1) | exact HB.out)⟩⟩
                                                  · rw [if_neg c49] at H
                                                    exact absurd H (by simp)
                                                · replace c48 := Bool.eq_false_iff.mpr c48
                                                  subst c48
                                                  have H1 : (laws_FnEtags.j6 kj44 a0 l3 x9_36 x10_5 x11_5 (rdOf ByteArray.empty l2 x59_5) (((⟨#[34]⟩ : ByteArray) ++ (rdOf ByteArray.empty l2 x59_5)) ++ (⟨#[34]⟩ : ByteArray)) l2 (l2.length : Int) x59_5) = some r := by rw [if_neg (show ¬ (false = true) by decide)] at H; exact H
                                                  clear H
                                                  have H := H1
                                                  clear H1
                                                  have H' := Aside0.mk H
                                                  clear H
                                                  go_wp2
                                                  go_meet
                                                  case rel => exact ⟨_, ((((⟨#[34]⟩ : ByteArray) ++ (rdOf ByteArray.empty l2 x59_5)) ++ (⟨#[34]⟩ : ByteArray))), (by first | rfl | (simp; done) | (rw [prx_ne]; first | done | rfl) | (simp [*]; done)), H', ⟨by have := HJ4.out; have := HJ9.out; have := HJ19.out; have := HJ36.out; have := HK5.out; have := HJ44.out; first | omega | exact Nat.le_refl _⟩, ⟨by (with_reducible repeat (first | apply Kd.R_alloc | apply Kd.R_drewN | apply Kd.R_drew)); exact HO_10.out⟩, ⟨by repeat (first | (with_reducible first | exact HB.out | apply below_alloc | apply pw_below_drewN | apply below_drew1) | exact HB.out)⟩⟩
                                              case rest =>
                                                clear HC47
                                                try clear c1
                                                try clear p1
                                                try clear q1
                                                try clear hx1
                                                try clear c2
                                                try clear p2
                                                try clear c3
                                                try clear c4
                                                try clear c6
                                                try clear c6b0
                                                try clear c6b1
                                                try clear c8
                                                try clear c9
                                                try clear c10
                                                try clear c12
                                                try clear p12
                                                try clear q12
                                                try clear hx12
                                                try clear c14
                                                try clear c19
                                                try clear c22
                                                try clear c23
                                                try clear c23b0
                                                try clear c23b1
                                                try clear c23b2
                                                try clear c30
                                                try clear c34
                                                try clear c35
                                                try clear c35b0
                                                try clear c35b1
                                                try clear c35b2
                                                try clear c36
                                                try clear c36b0
                                                try clear c36b1
                                                try clear c36b2
                                                try clear c38
                                                try clear c39
                                                try clear c39b0
                                                try clear c39b1
                                                try clear c39b2
                                                try clear c40
                                                try clear c40b0
                                                try clear c41
                                                try clear c41b0
                                                try clear c42
                                                try clear c42b0
                                                try clear c43
                                                try clear c43b0
                                                try clear c43b1
                                                try clear c43b2
                                                try clear c44
                                                try clear c44b0
                                                try clear c44b1
                                                try clear c44b2
                                                try clear c46
                                                try clear c46b0
                                                try clear c48
                                                try clear c49
                                                try clear c49b0
                                                try clear c49b1
                                                try clear c49b2
                                                try clear hx123_0
                                                try clear hx124_0
                                                try clear p1
                                                try clear p12
                                                try clear p123
                                                try clear p124
                                                try clear p2
                                                try clear q1
                                                try clear q12
                                                try clear q123
                                                try clear q124
                                                obtain ⟨kq, x14_46, rfl, HA, HJ46, HO_10, HB⟩ := hcut
                                                cases kq with
                                                | zero => exact absurd HA.out (by simp [laws_FnEtags.j6])
                                                | succ kj46 =>
                                                  have H := HA.out
                                                  clear HA
                                                  simp only [laws_FnEtags.j6] at H
                                                  by_cases c50 : x10_5.length < 8796093022208
                                                  · rw [if_pos c50] at H
                                                    have LMc50 := Aside0.mk c50
                                                    clear c50
                                                    obtain ⟨y125, hy125⟩ : ∃ y_ : List ByteArray, y_ = (x10_5 ++ [x14_46]) := ⟨_, rfl⟩
                                                    replace H : ((impl_EtagMatch.f x14_46 x9_36).bind fun t128 => ((laws_bareTag.f x14_46).bind fun t129 => ((laws_bareTag.f x9_36).bind fun t130 => (if (t128 != (t129.toList == t130.toList)) = true then (some false) else (if x11_5 = true then (laws_FnEtags.l0 kj46 a0 l3 x9_36 y125 ((rdOf ByteArray.empty l2 x59_5).toList != a0.toList) l2 (l2.length : Int) (wrap64 (x59_5 + 1))) else (laws_FnEtags.l0 kj46 a0 l3 x9_36 y125 false l2 (l2.length : Int) (wrap64 (x59_5 + 1)))))))) = some r := by first | (rw [hy125]; with_reducible exact H) | (have H2_ := (Option.bind_some _ _).symm.trans H; rw [hy125]; with_reducible exact H2_) | (have H2_ := (Option.bind_some _ _).symm.trans H; with_reducible exact H2_) | with_reducible exact H | (rw [hy125]; exact H) | exact H
                                                    have Ny125 := Aside0.mk hy125
                                                    clear hy125
                                                    replace H := Option.bind_eq_some_iff.mp H
                                                    obtain ⟨t128, A510, H⟩ := H
                                                    replace H : ((laws_bareTag.f x14_46).bind fun t129 => ((laws_bareTag.f x9_36).bind fun t130 => (if (t128 != (t129.toList == t130.toList)) = true then (some false) else (if x11_5 = true then (laws_FnEtags.l0 kj46 a0 l3 x9_36 y125 ((rdOf ByteArray.empty l2 x59_5).toList != a0.toList) l2 (l2.length : Int) (wrap64 (x59_5 + 1))) else (laws_FnEtags.l0 kj46 a0 l3 x9_36 y125 false l2 (l2.length : Int) (wrap64 (x59_5 + 1))))))) = some r := H
                                                    have A51 := Aside0.mk A510
                                                    clear A510
                                                    replace H := Option.bind_eq_some_iff.mp H
                                                    obtain ⟨t129, A520, H⟩ := H
                                                    replace H : ((laws_bareTag.f x9_36).bind fun t130 => (if (t128 != (t129.toList == t130.toList)) = true then (some false) else (if x11_5 = true then (laws_FnEtags.l0 kj46 a0 l3 x9_36 y125 ((rdOf ByteArray.empty l2 x59_5).toList != a0.toList) l2 (l2.length : Int) (wrap64 (x59_5 + 1))) else (laws_FnEtags.l0 kj46 a0 l3 x9_36 y125 false l2 (l2.length : Int) (wrap64 (x59_5 + 1)))))) = some r := H
                                                    have A52 := Aside0.mk A520
                                                    clear A520
                                                    replace H := Option.bind_eq_some_iff.mp H
                                                    obtain ⟨t130, A530, H⟩ := H
                                                    replace H : (if (t128 != (t129.toList == t130.toList)) = true then (some false) else (if x11_5 = true then (laws_FnEtags.l0 kj46 a0 l3 x9_36 y125 ((rdOf ByteArray.empty l2 x59_5).toList != a0.toList) l2 (l2.length : Int) (wrap64 (x59_5 + 1))) else (laws_FnEtags.l0 kj46 a0 l3 x9_36 y125 false l2 (l2.length : Int) (wrap64 (x59_5 + 1))))) = some r := H
                                                    have A53 := Aside0.mk A530
                                                    clear A530
                                                    by_cases c54 : (t128 != (t129.toList == t130.toList)) = true
                                                    · rw [if_pos c54] at H
                                                      have c54b0 : (t128 != (t129.toList == t130.toList)) = true := c54
                                                      (try (have c54b1 : decide (t128 = (t129.toList == t130.toList)) = false := by simpa using c54))
                                                      (try (have c54b2 : (t128 == (t129.toList == t130.toList)) = false := by simpa using c54))
                                                      (try (have c54b3 : ¬ (t128 = (t129.toList == t130.toList)) := by simpa using c54))
                                                      clear c54
                                                      obtain rfl := Option.some.inj H
                                                      go_wp2_with (first | ((with_reducible refine gate_builtin (b := .append) (xs := #[.tmp 81, .tmp 83]) rfl ?_); (try (refine gate_guard (by rfl) ?_; dsimp only)); at_builtin; refine Kd.R_append Kd.string (w0 := w) w.heap.size rfl (.tmp 81) (.tmp 83) 36 9 (.string ⟨#[]⟩) 16 rfl Try.underlying36 info9 rfl (by decide) (by omega) u10 x10_5 x14_46 [.string x14_46] (fun _ => True) (fun _ => False) rfl rfl ?aP (fun _ hk => hk.elim) ?aF ?aO ?aB ?aS ?aL ?_; (case aP => exact rfl); (case aB => exact (by repeat (first | (with_reducible first | exact HB.out | apply below_alloc | apply pw_below_drewN | apply below_drew1) | exact HB.out))); (case aF => exact (fun _ _ => trivial)); (case aO => exact (by (with_reducible repeat (first | apply Kd.R_alloc | apply Kd.R_drewN | apply Kd.R_drew)); exact HO_10.out)); (case aS => exact (below_size (by repeat (first | (with_reducible first | exact HB.out | apply below_alloc | apply pw_below_drewN | apply below_drew1) | exact HB.out)))); (case aL => have := LMc50.out; omega); intro v126 w55 ho hb hg hat; rw [← Ny125.out] at ho; have n0_ := Aside0.mk (hb); have n1_ := Aside0.mk (ho); clear HB; clear HO_10; have HB := n0_; have HO127 := n1_; clear n0_ n1_; clear ho hb hg hat) | ((with_reducible refine gate_callee (f := 30) rfl ?_); refine goesL_ (some 87) rfl rfl Try.func30 (by kernel_rfl) rfl #[.string x14_46, .string x9_36] rfl (by (try simp only [List.map_toArray, List.map_cons, List.map_nil]); first | done | rfl | (simp only [List.length_drop, List.length_take]; rfl)) ?_; (with_reducible refine (impl_EtagMatch.calls x14_46 x9_36 t128 _ A51.out).mono ?_); rintro e w' ⟨rfl, ⟨nd, rfl⟩⟩; refine ⟨_, rfl, ?_⟩) | ((with_reducible refine gate_callee (f := 32) rfl ?_); refine goesL_ (some 89) rfl rfl Try.func32 (by kernel_rfl) rfl #[.string x14_46] rfl (by (try simp only [List.map_toArray, List.map_cons, List.map_nil]); first | done | rfl | (simp only [List.length_drop, List.length_take]; rfl)) ?_; (with_reducible refine (laws_bareTag.calls x14_46 t129 _ A52.out).mono ?_); rintro e w' ⟨rfl, ⟨nd, rfl⟩⟩; refine ⟨_, rfl, ?_⟩) | ((with_reducible refine gate_callee (f := 32) rfl ?_); refine goesL_ (some 91) rfl rfl Try.func32 (by kernel_rfl) rfl #[.string x9_36] rfl (by (try simp only [List.map_toArray, List.map_cons, List.map_nil]); first | done | rfl | (simp only [List.length_drop, List.length_take]; rfl)) ?_; (with_reducible refine (laws_bareTag.calls x9_36 t130 _ A53.out).mono ?_); rintro e w' ⟨rfl, ⟨nd, rfl⟩⟩; refine ⟨_, rfl, ?_⟩))
                                                      go_ret
                                                      exact ⟨by first | rfl | (simp [errW_none, errW_some] <;> rfl) | (simp [*, errW_none, errW_some] <;> rfl), by repeat (first | (with_reducible first | exact HB.out | apply below_alloc | apply pw_below_drewN | apply below_drew1) | exact HB.out)⟩
                                                    · rw [if_neg c54] at H
                                                      have c54b0 : (t128 != (t129.toList == t130.toList)) = false := by simpa using c54
                                                      (try (have c54b1 : decide (t128 = (t129.toList == t130.toList)) = true := by simpa using c54))
                                                      (try (have c54b2 : (t128 == (t129.toList == t130.toList)) = true := by simpa using c54))
                                                      clear c54
                                                      by_cases c56 : x11_5 = true
                                                      · subst c56
                                                        have H1 : (laws_FnEtags.l0 kj46 a0 l3 x9_36 y125 ((rdOf ByteArray.empty l2 x59_5).toList != a0.toList) l2 (l2.length : Int) (wrap64 (x59_5 + 1))) = some r := by rw [if_pos rfl] at H; exact H
                                                        clear H
                                                        have H := H1
                                                        clear H1
                                                        have H' := Aside0.mk H
                                                        clear H
                                                        go_wp2_with (first | ((with_reducible refine gate_builtin (b := .append) (xs := #[.tmp 81, .tmp 83]) rfl ?_); (try (refine gate_guard (by rfl) ?_; dsimp only)); at_builtin; refine Kd.R_append Kd.string (w0 := w) w.heap.size rfl (.tmp 81) (.tmp 83) 36 9 (.string ⟨#[]⟩) 16 rfl Try.underlying36 info9 rfl (by decide) (by omega) u10 x10_5 x14_46 [.string x14_46] (fun _ => True) (fun _ => False) rfl rfl ?aP (fun _ hk => hk.elim) ?aF ?aO ?aB ?aS ?aL ?_; (case aP => exact rfl); (case aB => exact (by repeat (first | (with_reducible first | exact HB.out | apply below_alloc | apply pw_below_drewN | apply below_drew1) | exact HB.out))); (case aF => exact (fun _ _ => trivial)); (case aO => exact (by (with_reducible repeat (first | apply Kd.R_alloc | apply Kd.R_drewN | apply Kd.R_drew)); exact HO_10.out)); (case aS => exact (below_size (by repeat (first | (with_reducible first | exact HB.out | apply below_alloc | apply pw_below_drewN | apply below_drew1) | exact HB.out)))); (case aL => have := LMc50.out; omega); intro v126 w57 ho hb hg hat; rw [← Ny125.out] at ho; have n0_ := Aside0.mk (hb); have n1_ := Aside0.mk (ho); clear HB; clear HO_10; have HB := n0_; have HO127 := n1_; clear n0_ n1_; clear ho hb hg hat) | ((with_reducible refine gate_callee (f := 30) rfl ?_); refine goesL_ (some 87) rfl rfl Try.func30 (by kernel_rfl) rfl #[.string x14_46, .string x9_36] rfl (by (try simp only [List.map_toArray, List.map_cons, List.map_nil]); first | done | rfl | (simp only [List.length_drop, List.length_take]; rfl)) ?_; (with_reducible refine (impl_EtagMatch.calls x14_46 x9_36 t128 _ A51.out).mono ?_); rintro e w' ⟨rfl, ⟨nd, rfl⟩⟩; refine ⟨_, rfl, ?_⟩) | ((with_reducible refine gate_callee (f := 32) rfl ?_); refine goesL_ (some 89) rfl rfl Try.func32 (by kernel_rfl) rfl #[.string x14_46] rfl (by (try simp only [List.map_toArray, List.map_cons, List.map_nil]); first | done | rfl | (simp only [List.length_drop, List.length_take]; rfl)) ?_; (with_reducible refine (laws_bareTag.calls x14_46 t129 _ A52.out).mono ?_); rintro e w' ⟨rfl, ⟨nd, rfl⟩⟩; refine ⟨_, rfl, ?_⟩) | ((with_reducible refine gate_callee (f := 32) rfl ?_); refine goesL_ (some 91) rfl rfl Try.func32 (by kernel_rfl) rfl #[.string x9_36] rfl (by (try simp only [List.map_toArray, List.map_cons, List.map_nil]); first | done | rfl | (simp only [List.length_drop, List.length_take]; rfl)) ?_; (with_reducible refine (laws_bareTag.calls x9_36 t130 _ A53.out).mono ?_); rintro e w' ⟨rfl, ⟨nd, rfl⟩⟩; refine ⟨_, rfl, ?_⟩))
                                                        go_roundg kj46
                                                        case measure => have := HJ4.out; have := HJ9.out; have := HJ19.out; have := HJ36.out; have := HK5.out; have := HJ44.out; have := HJ46.out; omega
                                                        case rel => exact ⟨(y125), (((rdOf ByteArray.empty l2 x59_5).toList != a0.toList)), (wrap64 (x59_5 + 1)), (by first | rfl | (simp; done) | (rw [prx_ne]; first | done | rfl) | (simp [*]; done)), (by first | rfl | (simp; done) | (rw [prx_ne]; first | done | rfl) | (simp [*]; done)), H', ⟨by have := HJ4.out; have := HJ9.out; have := HJ19.out; have := HJ36.out; have := HK5.out; have := HJ44.out; have := HJ46.out; omega⟩, ⟨by (with_reducible repeat (first | apply Kd.R_alloc | apply Kd.R_drewN | apply Kd.R_drew)); exact HO127.out⟩, ⟨by repeat (first | (with_reducible first | exact HB.out | apply below_alloc | apply pw_below_drewN | apply below_drew1) | exact HB.out)⟩⟩
                                                      · replace c56 := Bool.eq_false_iff.mpr c56
                                                        subst c56
                                                        have H1 : (laws_FnEtags.l0 kj46 a0 l3 x9_36 y125 false l2 (l2.length : Int) (wrap64 (x59_5 + 1))) = some r := by rw [if_neg (show ¬ (false = true) by decide)] at H; exact H
                                                        clear H
                                                        have H := H1
                                                        clear H1
                                                        have H' := Aside0.mk H
                                                        clear H
                                                        go_wp2_with (first | ((with_reducible refine gate_builtin (b := .append) (xs := #[.tmp 81, .tmp 83]) rfl ?_); (try (refine gate_guard (by rfl) ?_; dsimp only)); at_builtin; refine Kd.R_append Kd.string (w0 := w) w.heap.size rfl (.tmp 81) (.tmp 83) 36 9 (.string ⟨#[]⟩) 16 rfl Try.underlying36 info9 rfl (by decide) (by omega) u10 x10_5 x14_46 [.string x14_46] (fun _ => True) (fun _ => False) rfl rfl ?aP (fun _ hk => hk.elim) ?aF ?aO ?aB ?aS ?aL ?_; (case aP => exact rfl); (case aB => exact (by repeat (first | (with_reducible first | exact HB.out | apply below_alloc | apply pw_below_drewN | apply below_drew1) | exact HB.out))); (case aF => exact (fun _ _ => trivial)); (case aO => exact (by (with_reducible repeat (first | apply Kd.R_alloc | apply Kd.R_drewN | apply Kd.R_drew)); exact HO_10.out)); (case aS => exact (below_size (by repeat (first | (with_reducible first | exact HB.out | apply below_alloc | apply pw_below_drewN | apply below_drew1) | exact HB.out)))); (case aL => have := LMc50.out; omega); intro v126 w58 ho hb hg hat; rw [← Ny125.out] at ho; have n0_ := Aside0.mk (hb); have n1_ := Aside0.mk (ho); clear HB; clear HO_10; have HB := n0_; have HO127 := n1_; clear n0_ n1_; clear ho hb hg hat) | ((with_reducible refine gate_callee (f := 30) rfl ?_); refine goesL_ (some 87) rfl rfl Try.func30 (by kernel_rfl) rfl #[.string x14_46, .string x9_36] rfl (by (try simp only [List.map_toArray, List.map_cons, List.map_nil]); first | done | rfl | (simp only [List.length_drop, List.length_take]; rfl)) ?_; (with_reducible refine (impl_EtagMatch.calls x14_46 x9_36 t128 _ A51.out).mono ?_); rintro e w' ⟨rfl, ⟨nd, rfl⟩⟩; refine ⟨_, rfl, ?_⟩) | ((with_reducible refine gate_callee (f := 32) rfl ?_); refine goesL_ (some 89) rfl rfl Try.func32 (by kernel_rfl) rfl #[.string x14_46] rfl (by (try simp only [List.map_toArray, List.map_cons, List.map_nil]); first | done | rfl | (simp only [List.length_drop, List.length_take]; rfl)) ?_; (with_reducible refine (laws_bareTag.calls x14_46 t129 _ A52.out).mono ?_); rintro e w' ⟨rfl, ⟨nd, rfl⟩⟩; refine ⟨_, rfl, ?_⟩) | ((with_reducible refine gate_callee (f := 32) rfl ?_); refine goesL_ (some 91) rfl rfl Try.func32 (by kernel_rfl) rfl #[.string x9_36] rfl (by (try simp only [List.map_toArray, List.map_cons, List.map_nil]); first | done | rfl | (simp only [List.length_drop, List.length_take]; rfl)) ?_; (with_reducible refine (laws_bareTag.calls x9_36 t130 _ A53.out).mono ?_); rintro e w' ⟨rfl, ⟨nd, rfl⟩⟩; refine ⟨_, rfl, ?_⟩))
                                                        go_roundg kj46
                                                        case measure => have := HJ4.out; have := HJ9.out; have := HJ19.out; have := HJ36.out; have := HK5.out; have := HJ44.out; have := HJ46.out; omega
                                                        case rel => exact ⟨(y125), (false), (wrap64 (x59_5 + 1)), (by first | rfl | (simp; done) | (rw [prx_ne]; first | done | rfl) | (simp [*]; done)), (by first | rfl | (simp; done) | (rw [prx_ne]; first | done | rfl) | (simp [*]; done)), H', ⟨by have := HJ4.out; have := HJ9.out; have := HJ19.out; have := HJ36.out; have := HK5.out; have := HJ44.out; have := HJ46.out; omega⟩, ⟨by (with_reducible repeat (first | apply Kd.R_alloc | apply Kd.R_drewN | apply Kd.R_drew)); exact HO127.out⟩, ⟨by repeat (first | (with_reducible first | exact HB.out | apply below_alloc | apply pw_below_drewN | apply below_drew1) | exact HB.out)⟩⟩
                                                  · rw [if_neg c50] at H
                                                    exact absurd H (by simp)
                                        · rw [if_neg c44] at H
                                          exact absurd H (by simp)
                                      · rw [if_neg c43] at H
                                        exact absurd H (by simp)
                                    · rw [if_neg c42] at H
                                      exact absurd H (by simp)
                                  · rw [if_neg c41] at H
                                    exact absurd H (by simp)
                                · rw [if_neg c40] at H
                                  have c40b0 : decide (x59_5 < (l2.length : Int)) = false := decide_eq_false c40
                                  clear c40
                                  replace H := Option.bind_eq_some_iff.mp H
                                  obtain ⟨t131, A590, H⟩ := H
                                  replace H : ((impl_EtagStale.f x9_36 t131).bind fun t132 => (if (t132 == x11_5) = true then ((laws_joined.f k5 x10_5 (⟨#[44]⟩ : ByteArray)).bind fun t133 => ((impl_EtagStale.f x9_36 t133).bind fun t134 => (some (t134 == x11_5)))) else (some false))) = some r := H
                                  have A59 := Aside0.mk A590
                                  clear A590
                                  replace H := Option.bind_eq_some_iff.mp H
                                  obtain ⟨t132, A600, H⟩ := H
                                  replace H : (if (t132 == x11_5) = true then ((laws_joined.f k5 x10_5 (⟨#[44]⟩ : ByteArray)).bind fun t133 => ((impl_EtagStale.f x9_36 t133).bind fun t134 => (some (t134 == x11_5)))) else (some false)) = some r := H
                                  have A60 := Aside0.mk A600
                                  clear A600
                                  by_cases c61 : (t132 == x11_5) = true
                                  · rw [if_pos c61] at H
                                    have c61b0 : (t132 == x11_5) = true := c61
                                    (try (have c61b1 : decide (t132 = x11_5) = true := by simpa using c61))
                                    (try (have c61b2 : (t132 == x11_5) = true := by simpa using c61))
                                    clear c61
                                    replace H := Option.bind_eq_some_iff.mp H
                                    obtain ⟨t133, A620, H⟩ := H
                                    replace H : ((impl_EtagStale.f x9_36 t133).bind fun t134 => (some (t134 == x11_5))) = some r := H
                                    have A62 := Aside0.mk A620
                                    clear A620
                                    replace H := Option.bind_eq_some_iff.mp H
                                    obtain ⟨t134, A630, H⟩ := H
                                    replace H : (some (t134 == x11_5)) = some r := H
                                    have A63 := Aside0.mk A630
                                    clear A630
                                    obtain rfl := Option.some.inj H
                                    obtain ⟨Ao64, co64, eo64⟩ := Kd.R_slice HO_10.out
                                    subst eo64
                                    go_wp2_with (first | ((with_reducible refine gate_callee (f := 29) rfl ?_); refine goesL_ (some 103) rfl rfl Try.func29 (by kernel_rfl) rfl #[.slice Ao64 x10_5.length co64, .string (⟨#[44, 32]⟩ : ByteArray)] rfl (by (try simp only [List.map_toArray, List.map_cons, List.map_nil]); first | done | rfl | (simp only [List.length_drop, List.length_take]; rfl)) ?_; (with_reducible refine (laws_joined.calls k5 _ _ x10_5 (⟨#[44, 32]⟩ : ByteArray) t131 _ ?side1 ?side2 A59.out).mono ?_); (case side1 => repeat (first | exact (Kd.R_reads' HO_10.out).2.2 | (with_reducible refine Kd.C_alloc ?_ _) | (with_reducible refine Kd.C_drewN ?_ _) | (with_reducible refine Kd.C_drew ?_))); (case side2 => exact (Kd.R_reads' HO_10.out).2.1); rintro e w' ⟨rfl, ⟨nd, rfl⟩⟩; refine ⟨_, rfl, ?_⟩) | ((with_reducible refine gate_callee (f := 31) rfl ?_); refine goesL_ (some 104) rfl rfl Try.func31 (by kernel_rfl) rfl #[.string x9_36, .string t131] rfl (by (try simp only [List.map_toArray, List.map_cons, List.map_nil]); first | done | rfl | (simp only [List.length_drop, List.length_take]; rfl)) ?_; (with_reducible refine (impl_EtagStale.calls x9_36 t131 t132 _ A60.out).mono ?_); rintro e w65 ⟨rfl, hb⟩; refine ⟨_, rfl, ?_⟩; have n0_ := Aside0.mk (Kd.R_below (by (with_reducible repeat (first | apply Kd.R_alloc | apply Kd.R_drewN | apply Kd.R_drew)); exact HO_10.out) hb); have n1_ := Aside0.mk (below_step (by repeat (first | (with_reducible first | exact HB.out | apply below_alloc | apply pw_below_drewN | apply below_drew1) | exact HB.out)) hb); clear HO_10; clear HB; have HO_10 := n0_; have HB := n1_; clear n0_ n1_; (try clear hb); (try clear hb2); (try clear hk); (try clear hi)) | (go_at_call 29; (with_reducible refine (laws_joined.calls k5 _ _ x10_5 (⟨#[44]⟩ : ByteArray) t133 _ ?side1 ?side2 A62.out).mono ?_); (case side1 => repeat (first | exact (Kd.R_reads' HO_10.out).2.2 | (with_reducible refine Kd.C_alloc ?_ _) | (with_reducible refine Kd.C_drewN ?_ _) | (with_reducible refine Kd.C_drew ?_))); (case side2 => exact (Kd.R_reads' HO_10.out).2.1); rintro e w' ⟨rfl, ⟨nd, rfl⟩⟩) | (go_at_call 31; (with_reducible refine (impl_EtagStale.calls x9_36 t133 t134 _ A63.out).mono ?_); rintro e w66 ⟨rfl, hb⟩; have n0_ := Aside0.mk (Kd.R_below (by (with_reducible repeat (first | apply Kd.R_alloc | apply Kd.R_drewN | apply Kd.R_drew)); exact HO_10.out) hb); have n1_ := Aside0.mk (below_step (by repeat (first | (with_reducible first | exact HB.out | apply below_alloc | apply pw_below_drewN | apply below_drew1) | exact HB.out)) hb); clear HO_10; clear HB; have HO_10 := n0_; have HB := n1_; clear n0_ n1_; (try clear hb); (try clear hb2); (try clear hk); (try clear hi)))
                                    go_ret
                                    exact ⟨by first | rfl | (simp [errW_none, errW_some] <;> rfl) | (simp [*, errW_none, errW_some] <;> rfl), by repeat (first | (with_reducible first | exact HB.out | apply below_alloc | apply pw_below_drewN | apply below_drew1) | exact HB.out)⟩
                                  · rw [if_neg c61] at H
                                    have c61b0 : (t132 == x11_5) = false := by simpa using c61
                                    (try (have c61b1 : decide (t132 = x11_5) = false := by simpa using c61))
                                    (try (have c61b2 : (t132 == x11_5) = false := by simpa using c61))
                                    (try (have c61b3 : ¬ (t132 = x11_5) := by simpa using c61))
                                    clear c61
                                    obtain rfl := Option.some.inj H
                                    obtain ⟨Ao67, co67, eo67⟩ := Kd.R_slice HO_10.out
                                    subst eo67
                                    go_wp2_with (first | ((with_reducible refine gate_callee (f := 29) rfl ?_); refine goesL_ (some 103) rfl rfl Try.func29 (by kernel_rfl) rfl #[.slice Ao67 x10_5.length co67, .string (⟨#[44, 32]⟩ : ByteArray)] rfl (by (try simp only [List.map_toArray, List.map_cons, List.map_nil]); first | done | rfl | (simp only [List.length_drop, List.length_take]; rfl)) ?_; (with_reducible refine (laws_joined.calls k5 _ _ x10_5 (⟨#[44, 32]⟩ : ByteArray) t131 _ ?side1 ?side2 A59.out).mono ?_); (case side1 => repeat (first | exact (Kd.R_reads' HO_10.out).2.2 | (with_reducible refine Kd.C_alloc ?_ _) | (with_reducible refine Kd.C_drewN ?_ _) | (with_reducible refine Kd.C_drew ?_))); (case side2 => exact (Kd.R_reads' HO_10.out).2.1); rintro e w' ⟨rfl, ⟨nd, rfl⟩⟩; refine ⟨_, rfl, ?_⟩) | ((with_reducible refine gate_callee (f := 31) rfl ?_); refine goesL_ (some 104) rfl rfl Try.func31 (by kernel_rfl) rfl #[.string x9_36, .string t131] rfl (by (try simp only [List.map_toArray, List.map_cons, List.map_nil]); first | done | rfl | (simp only [List.length_drop, List.length_take]; rfl)) ?_; (with_reducible refine (impl_EtagStale.calls x9_36 t131 t132 _ A60.out).mono ?_); rintro e w68 ⟨rfl, hb⟩; refine ⟨_, rfl, ?_⟩; have n0_ := Aside0.mk (Kd.R_below (by (with_reducible repeat (first | apply Kd.R_alloc | apply Kd.R_drewN | apply Kd.R_drew)); exact HO_10.out) hb); have n1_ := Aside0.mk (below_step (by repeat (first | (with_reducible first | exact HB.out | apply below_alloc | apply pw_below_drewN | apply below_drew1) | exact HB.out)) hb); clear HO_10; clear HB; have HO_10 := n0_; have HB := n1_; clear n0_ n1_; (try clear hb); (try clear hb2); (try clear hk); (try clear hi)))
                                    go_ret
                                    exact ⟨by first | rfl | (simp [errW_none, errW_some] <;> rfl) | (simp [*, errW_none, errW_some] <;> rfl), by repeat (first | (with_reducible first | exact HB.out | apply below_alloc | apply pw_below_drewN | apply below_drew1) | exact HB.out)⟩
                      · rw [if_neg c36] at H
                        exact absurd H (by simp)
                    · rw [if_neg c35] at H
                      exact absurd H (by simp)

/-- THE ONE PURE STATEMENT of laws_FnEtags: yours. -/
def laws_FnEtags.Pure : Prop := ∀ (a0 : ByteArray) (a1 : Bool) (l2 : List ByteArray) (l3 : List Int), a0.size ≤ 140737488351232 → l2.length * 16 ≤ 140737488351232 → l3.length ≤ maxLen → l3.length * 1 ≤ 140737488351232 → (∀ x ∈ l3, (Lit.int .u8 x).wf = true) → ∃ k, laws_FnEtags.f k a0 a1 l2 l3 = some true
theorem laws_FnEtags.walk (P : laws_FnEtags.Pure) (a0 : ByteArray) (a1 : Bool) (a2 : Option Addr) (cap2 : Nat) (l2 : List ByteArray) (a3 : Option Addr) (len3 cap3 : Nat) (z3 : List Int) (w : World) (w0 : a0.size ≤ 140737488351232) (w2 : Kd.C Kd.string w a2 l2.length l2) (y2 : l2.length ≤ cap2) (m2 : l2.length * 16 ≤ 140737488351232) (w3 : (a3 = none ∧ len3 = 0 ∧ cap3 = 0 ∧ z3 = []) ∨ ∃ x, a3 = some x ∧ len3 ≤ cap3 ∧ cap3 ≤ maxLen ∧ z3.length = cap3 ∧ (∀ i, i < z3.length → w.cell? (x.add i) = some (.int .u8 (z3.getD i 0))) ∧ ∀ n ∈ z3, (Lit.int .u8 n).wf = true) (y3 : len3 * 1 ≤ 140737488351232) :
    Calls Try.prog 10 #[.string a0, .bool a1, .slice a2 l2.length cap2, .slice a3 len3 cap3] w fun e w' => e = .returned (.bool true) ∧ Below w.heap.size w w' := by
  obtain ⟨l3, rfl, hr3, hm3, hw3, hc3⟩ := ReadsInt.ofRowC w3
  obtain ⟨k, h⟩ := P a0 a1 l2 l3 w0 m2 hm3 y3 hw3
  refine (laws_FnEtags.calls k a0 a1 _ _ l2 _ _ l3 true w w2 y2 (Kd.C_of_reads (d := (0 : Int)) (h1 := fun _ => rfl) hr3) hc3 h).mono ?_
  rintro e w' ⟨rfl, hd⟩
  exact ⟨rfl, hd⟩

end Go.Proofs.Ytdfeojkombmiaaa.QA
