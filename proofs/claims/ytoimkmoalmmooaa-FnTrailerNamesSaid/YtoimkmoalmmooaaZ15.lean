/- Texts of this claim, one behind the other (merged by wip/prune.py of this repo, without what the proof does not use): QA15. -/
import Derived.Test.YtoimkmoalmmooaaZ5
import Derived.Test.YtoimkmoalmmooaaZ8
import Derived.Test.YtoimkmoalmmooaaZ14
namespace Go.Proofs.Ytoimkmoalmmooaa.QA
open Go.Proofs.Ytoimkmoalmmooaa.Given
open Go.Proofs.Ytoimkmoalmmooaa.PrX
open Go.RowKit Go.Proofs.YtoimkmoalmmooaaW.PrintWords Go.Proofs.YtoimkmoalmmooaaW.PrintLast Go.Proofs.YtoimkmoalmmooaaW.PrintMore
set_option linter.unusedVariables false
set_option linter.unusedSimpArgs false
mutual
def laws_FnTrailerNames.j0 : Nat → List ByteArray → Bool → Option (Bool)
  | 0, _, _ => none
  | k + 1, x0, x57 => if x57 = true then (some false) else (if (x0.length : Int) = 0 then (laws_FnTrailerNames.j1 k x0 true) else (laws_FnTrailerNames.j1 k x0 (decide ((x0.length : Int) > 12))))
def laws_FnTrailerNames.j1 : Nat → List ByteArray → Bool → Option (Bool)
  | 0, _, _ => none
  | k + 1, x0, x65 => if x65 = true then (some true) else (laws_FnTrailerNames.l0 k x0 ([] : List (S34)) x0 (x0.length : Int) 0)
def laws_FnTrailerNames.l0 : Nat → List ByteArray → List (S34) → List ByteArray → Int → Int → Option (Bool)
  | 0, _, _, _, _, _ => none
  | k + 1, x0, x6, x66, x67, x68 => if x68 < x67 then (if 0 ≤ x68 then (if x68 < (x66.length : Int) then ((laws_name.f k (rdOf ByteArray.empty x66 x68)).bind fun t285 => (if t285 = true then (laws_FnTrailerNames.j3 k x0 x6 (rdOf ByteArray.empty x66 x68) x66 x67 x68 false) else ((laws_forbidden.f (rdOf ByteArray.empty x66 x68)).bind fun t286 => (laws_FnTrailerNames.j3 k x0 x6 (rdOf ByteArray.empty x66 x68) x66 x67 x68 (!t286))))) else (none)) else (none)) else ((laws_joined.f k x0 (⟨#[44, 32]⟩ : ByteArray)).bind fun t292 => ((impl_TrailerScript.f (([(⟨4, (⟨#[]⟩ : ByteArray), t292, 0, 0⟩ : S28), (⟨7, (⟨#[]⟩ : ByteArray), (⟨#[]⟩ : ByteArray), 0, 0⟩ : S28), (⟨5, (⟨#[]⟩ : ByteArray), (⟨#[]⟩ : ByteArray), 0, 0⟩ : S28), (⟨8, (⟨#[]⟩ : ByteArray), (⟨#[]⟩ : ByteArray), 0, 0⟩ : S28)] : List (S28)))).bind fun bt296 => (if bt296.2.2 = true then (if (bt296.1.length : Int) = 4 then (if 0 < (bt296.1.length : Int) then (if 0 ≤ (wrap64 ((x0.length : Int) - 1)) then (if (wrap64 ((x0.length : Int) - 1)) < (x0.length : Int) then ((laws_forbidden.f (rdOf ByteArray.empty x0 (wrap64 ((x0.length : Int) - 1)))).bind fun t303 => (if (((rd_T32 bt296.1 0).f1) == t303) = true then (laws_FnTrailerNames.j4 k x6 bt296.1 true) else (if 1 < (bt296.1.length : Int) then ((laws_samePairs.f k ((rd_T32 bt296.1 1).f4) x6).bind fun t305 => (if t305 = true then (if 3 < (bt296.1.length : Int) then (laws_FnTrailerNames.j4 k x6 bt296.1 (((rd_T32 bt296.1 3).f1) != ((x6.length : Int) == 0))) else (none)) else (laws_FnTrailerNames.j4 k x6 bt296.1 true))) else (none)))) else (none)) else (none)) else (none)) else (laws_FnTrailerNames.j4 k x6 bt296.1 true)) else (laws_FnTrailerNames.j4 k x6 bt296.1 true))))
def laws_FnTrailerNames.j3 : Nat → List ByteArray → List (S34) → ByteArray → List ByteArray → Int → Int → Bool → Option (Bool)
  | 0, _, _, _, _, _, _, _ => none
  | k + 1, x0, x6, x8, x66, x67, x68, x79 => if x79 = true then (some true) else ((laws_forbidden.f x8).bind fun t287 => (if t287 = true then (laws_FnTrailerNames.l0 k x0 x6 x66 x67 (wrap64 (x68 + 1))) else ((laws_normal.f x8).bind fun t288 => (if x6.length < 4398046511104 then (laws_FnTrailerNames.l0 k x0 (x6 ++ [(⟨t288, (⟨#[]⟩ : ByteArray)⟩ : S34)]) x66 x67 (wrap64 (x68 + 1))) else (none)))))
def laws_FnTrailerNames.j4 : Nat → List (S34) → List (S32) → Bool → Option (Bool)
  | 0, _, _, _ => none
  | k + 1, x6, x9, x141 => if x141 = true then (some false) else (laws_FnTrailerNames.l1 k x9 ([] : List ByteArray) x6 (x6.length : Int) 0)
def laws_FnTrailerNames.l1 : Nat → List (S32) → List ByteArray → List (S34) → Int → Int → Option (Bool)
  | 0, _, _, _, _, _ => none
  | k + 1, x9, x12, x142, x143, x144 => if x144 < x143 then (if 0 ≤ x144 then (if x144 < (x142.length : Int) then (if x12.length < 8796093022208 then (laws_FnTrailerNames.l1 k x9 (x12 ++ [(rd_T34 x142 x144).f0]) x142 x143 (wrap64 (x144 + 1))) else (none)) else (none)) else (none)) else (if 2 < (x9.length : Int) then ((laws_joined.f k x12 (⟨#[44, 32]⟩ : ByteArray)).bind fun t313 => (some (((rd_T32 x9 2).f0).toList == t313.toList))) else (none))
end
def laws_FnTrailerNames.f (k : Nat) (l0 : List ByteArray) : Option (Bool) := (laws_zzFits6.f k l0).bind fun t271 => (if t271 = true then ((impl_TrailerScript.f (([(⟨4, (⟨#[]⟩ : ByteArray), (⟨#[88, 45, 65]⟩ : ByteArray), 0, 0⟩ : S28), (⟨7, (⟨#[]⟩ : ByteArray), (⟨#[]⟩ : ByteArray), 0, 0⟩ : S28)] : List (S28)))).bind fun bt275 => (if bt275.2.2 = true then (if (bt275.1.length : Int) = 2 then (if 0 < (bt275.1.length : Int) then (if ((rd_T32 bt275.1 0).f1 = true) then (if 1 < (bt275.1.length : Int) then (if (((rd_T32 bt275.1 1).f4).length : Int) = 1 then (if 0 < (((rd_T32 bt275.1 1).f4).length : Int) then (laws_FnTrailerNames.j0 k l0 (((rd_T34 ((rd_T32 bt275.1 1).f4) 0).f0).toList != ([88, 45, 65] : List UInt8))) else (none)) else (laws_FnTrailerNames.j0 k l0 true)) else (none)) else (laws_FnTrailerNames.j0 k l0 true)) else (none)) else (laws_FnTrailerNames.j0 k l0 true)) else (laws_FnTrailerNames.j0 k l0 true))) else (some true))
def laws_FnTrailerNames.T18 : Bool × List (List Nat × List Nat) := (true, [([], []), ([0], [0]), ([1], [1]), ([2], [2]), ([3, 2], [2, 3]), ([4, 2], [2, 4]), ([2, 5], [2, 5]), ([6, 2], [6]), ([7], [7]), ([8, 7], [7, 8]), ([9, 7], [7, 9]), ([10, 7], [7, 10]), ([7], [7]), ([7], [7]), ([13, 7], [7, 13]), ([14, 7], [7, 14]), ([12, 15, 7], [7, 12, 15]), ([16, 7], [7, 16]), ([17, 7, 7], [7, 17]), ([11, 18, 7], [7, 11, 18]), ([7, 19], [7, 19]), ([20, 18], [20]), ([21], [21]), ([22, 21], [21, 22]), ([23, 21], [21, 23]), ([24, 21], [21, 24]), ([21], [21]), ([25, 26, 21, 21], [21, 25, 26]), ([27, 21], [21, 27]), ([21, 28], [21, 28]), ([29, 27], [29]), ([30], [30]), ([31, 30], [30, 31]), ([32, 30], [30, 32]), ([33, 30], [30, 33]), ([30], [30]), ([35, 30], [30, 35]), ([36, 30], [30, 36]), ([34, 37, 30], [30, 34, 37]), ([30, 38], [30, 38])])
def laws_FnTrailerNames.B18 : List Nat := [0, 1, 3, 7, 15, 31, 63, 127, 255, 511, 1023, 2047, 255, 255, 8447, 24831, 61695, 127231, 258303, 524287, 1048575, 2097151, 4194303, 8388607, 16777215, 33554431, 4194303, 134217727, 268435455, 536870911, 1073741823, 2147483647, 4294967295, 8589934591, 17179869183, 2147483647, 36507222015, 105226698751, 274877906943, 549755813887]
theorem laws_FnTrailerNames.tab18 : rtab .any (opsOf Try.f3 18) = laws_FnTrailerNames.T18 := by kernel_rfl
theorem laws_FnTrailerNames.bits18 : waitsOk laws_FnTrailerNames.T18.2 laws_FnTrailerNames.B18 = true := by kernel_rfl
def laws_FnTrailerNames.T26 : Bool × List (List Nat × List Nat) := (true, [([], []), ([0], [0]), ([1], [1]), ([2], [2]), ([], []), ([4], [4]), ([3, 5], [3, 5]), ([6, 5, 0, 1, 2, 3, 4, 5, 6], [6])])
def laws_FnTrailerNames.B26 : List Nat := [0, 1, 3, 7, 0, 16, 63, 127]
theorem laws_FnTrailerNames.tab26 : rtab .any (opsOf Try.f3 26) = laws_FnTrailerNames.T26 := by kernel_rfl
theorem laws_FnTrailerNames.bits26 : waitsOk laws_FnTrailerNames.T26.2 laws_FnTrailerNames.B26 = true := by kernel_rfl
set_option maxHeartbeats 8000000 in
set_option maxRecDepth 100000 in
theorem laws_FnTrailerNames.calls (k : Nat) (A0 : Option Addr) (c0 : Nat) (l0 : List ByteArray) (r : Bool) (w : World) (hr0 : Kd.C Kd.string w A0 l0.length l0) (hc0 : l0.length ≤ c0) (h : laws_FnTrailerNames.f k l0 = some r) :
  Calls Try.prog 3 #[.slice A0 l0.length c0] w fun e w' => e = .returned (.bool r) ∧ Below w.heap.size w w' := by
 have hu28 := Try.underlying28
 have hu34 := Try.underlying34
 have HR0 := Aside0.mk hr0
 have HC0 := Aside0.mk hc0
 clear hr0 hc0
 have HB := Aside0.mk (Below.refl w.heap.size w)
 have H : ((laws_zzFits6.f k l0).bind fun t271 => (if t271 = true then ((impl_TrailerScript.f (([(⟨4, (⟨#[]⟩ : ByteArray), (⟨#[88, 45, 65]⟩ : ByteArray), 0, 0⟩ : S28), (⟨7, (⟨#[]⟩ : ByteArray), (⟨#[]⟩ : ByteArray), 0, 0⟩ : S28)] : List (S28)))).bind fun bt275 => (if bt275.2.2 = true then (if (bt275.1.length : Int) = 2 then (if 0 < (bt275.1.length : Int) then (if ((rd_T32 bt275.1 0).f1 = true) then (if 1 < (bt275.1.length : Int) then (if (((rd_T32 bt275.1 1).f4).length : Int) = 1 then (if 0 < (((rd_T32 bt275.1 1).f4).length : Int) then (laws_FnTrailerNames.j0 k l0 (((rd_T34 ((rd_T32 bt275.1 1).f4) 0).f0).toList != ([88, 45, 65] : List UInt8))) else (none)) else (laws_FnTrailerNames.j0 k l0 true)) else (none)) else (laws_FnTrailerNames.j0 k l0 true)) else (none)) else (laws_FnTrailerNames.j0 k l0 true)) else (laws_FnTrailerNames.j0 k l0 true))) else (some true))) = some r := h
 clear h
 replace H := Option.bind_eq_some_iff.mp H
 obtain ⟨t271, A20, H⟩ := H
 replace H : (if t271 = true then ((impl_TrailerScript.f (([(⟨4, (⟨#[]⟩ : ByteArray), (⟨#[88, 45, 65]⟩ : ByteArray), 0, 0⟩ : S28), (⟨7, (⟨#[]⟩ : ByteArray), (⟨#[]⟩ : ByteArray), 0, 0⟩ : S28)] : List (S28)))).bind fun bt275 => (if bt275.2.2 = true then (if (bt275.1.length : Int) = 2 then (if 0 < (bt275.1.length : Int) then (if ((rd_T32 bt275.1 0).f1 = true) then (if 1 < (bt275.1.length : Int) then (if (((rd_T32 bt275.1 1).f4).length : Int) = 1 then (if 0 < (((rd_T32 bt275.1 1).f4).length : Int) then (laws_FnTrailerNames.j0 k l0 (((rd_T34 ((rd_T32 bt275.1 1).f4) 0).f0).toList != ([88, 45, 65] : List UInt8))) else (none)) else (laws_FnTrailerNames.j0 k l0 true)) else (none)) else (laws_FnTrailerNames.j0 k l0 true)) else (none)) else (laws_FnTrailerNames.j0 k l0 true)) else (laws_FnTrailerNames.j0 k l0 true))) else (some true)) = some r := H
 have A2 := Aside0.mk A20
 clear A20
 by_cases c3 : t271 = true
 ·subst c3
  have H1 : ((impl_TrailerScript.f (([(⟨4, (⟨#[]⟩ : ByteArray), (⟨#[88, 45, 65]⟩ : ByteArray), 0, 0⟩ : S28), (⟨7, (⟨#[]⟩ : ByteArray), (⟨#[]⟩ : ByteArray), 0, 0⟩ : S28)] : List (S28)))).bind fun bt275 => (if bt275.2.2 = true then (if (bt275.1.length : Int) = 2 then (if 0 < (bt275.1.length : Int) then (if ((rd_T32 bt275.1 0).f1 = true) then (if 1 < (bt275.1.length : Int) then (if (((rd_T32 bt275.1 1).f4).length : Int) = 1 then (if 0 < (((rd_T32 bt275.1 1).f4).length : Int) then (laws_FnTrailerNames.j0 k l0 (((rd_T34 ((rd_T32 bt275.1 1).f4) 0).f0).toList != ([88, 45, 65] : List UInt8))) else (none)) else (laws_FnTrailerNames.j0 k l0 true)) else (none)) else (laws_FnTrailerNames.j0 k l0 true)) else (none)) else (laws_FnTrailerNames.j0 k l0 true)) else (laws_FnTrailerNames.j0 k l0 true))) = some r := by rw [if_pos rfl] at H; exact H
  clear H
  have H := H1
  clear H1
  obtain ⟨y272, hy272⟩ : ∃ y_ : List (S28), y_ = (([(⟨4, (⟨#[]⟩ : ByteArray), (⟨#[88, 45, 65]⟩ : ByteArray), 0, 0⟩ : S28), (⟨7, (⟨#[]⟩ : ByteArray), (⟨#[]⟩ : ByteArray), 0, 0⟩ : S28)] : List (S28))) := ⟨_, rfl⟩
  replace H : ((impl_TrailerScript.f y272).bind fun bt275 => (if bt275.2.2 = true then (if (bt275.1.length : Int) = 2 then (if 0 < (bt275.1.length : Int) then (if ((rd_T32 bt275.1 0).f1 = true) then (if 1 < (bt275.1.length : Int) then (if (((rd_T32 bt275.1 1).f4).length : Int) = 1 then (if 0 < (((rd_T32 bt275.1 1).f4).length : Int) then (laws_FnTrailerNames.j0 k l0 (((rd_T34 ((rd_T32 bt275.1 1).f4) 0).f0).toList != ([88, 45, 65] : List UInt8))) else (none)) else (laws_FnTrailerNames.j0 k l0 true)) else (none)) else (laws_FnTrailerNames.j0 k l0 true)) else (none)) else (laws_FnTrailerNames.j0 k l0 true)) else (laws_FnTrailerNames.j0 k l0 true))) = some r := by first | (rw [hy272]; with_reducible exact H) | (have H2_ := (Option.bind_some _ _).symm.trans H; rw [hy272]; with_reducible exact H2_) | (have H2_ := (Option.bind_some _ _).symm.trans H; with_reducible exact H2_) | with_reducible exact H | (rw [hy272]; exact H) | exact H
  have Ny272 := Aside0.mk hy272
  clear hy272
  replace H := Option.bind_eq_some_iff.mp H
  obtain ⟨⟨t275, t276, t277⟩, A40, H⟩ := H
  replace H : (if t277 = true then (if (t275.length : Int) = 2 then (if 0 < (t275.length : Int) then (if ((rd_T32 t275 0).f1 = true) then (if 1 < (t275.length : Int) then (if (((rd_T32 t275 1).f4).length : Int) = 1 then (if 0 < (((rd_T32 t275 1).f4).length : Int) then (laws_FnTrailerNames.j0 k l0 (((rd_T34 ((rd_T32 t275 1).f4) 0).f0).toList != ([88, 45, 65] : List UInt8))) else (none)) else (laws_FnTrailerNames.j0 k l0 true)) else (none)) else (laws_FnTrailerNames.j0 k l0 true)) else (none)) else (laws_FnTrailerNames.j0 k l0 true)) else (laws_FnTrailerNames.j0 k l0 true)) = some r := H
  have A4 := Aside0.mk A40
  clear A40
  have HC5 := Aside0.mk H
  clear H
  go_enter Try.func3, Try.ntmps3
  go_upto_region 4 with (first | ((with_reducible refine gate_callee (f := 8) rfl ?_); refine goesL_ (some 16) rfl rfl Try.func8 (by kernel_rfl) rfl #[.slice A0 l0.length c0] rfl (by (try simp only [List.map_toArray, List.map_cons, List.map_nil]); first | done | rfl | (simp only [List.length_drop, List.length_take]; rfl)) ?_; (with_reducible refine (laws_zzFits6.calls k _ _ l0 true _ ?side1 ?side2 A2.out).mono ?_); (case side1 => repeat (first | exact HR0.out | (with_reducible refine Kd.C_alloc ?_ _) | (with_reducible refine Kd.C_drewN ?_ _) | (with_reducible refine Kd.C_drew ?_))); (case side2 => exact HC0.out); rintro e w' ⟨rfl, ⟨nd, rfl⟩⟩; refine ⟨_, rfl, ?_⟩) | ((with_reducible refine gate_dst (N := 21) rfl ?_); (try (refine gate_guard (by rfl) ?_; dsimp only)); refine Kd.R_lit k28 _ 28 ?hg (N := 21) ?hd (xs := ([(⟨4, (⟨#[]⟩ : ByteArray), (⟨#[88, 45, 65]⟩ : ByteArray), 0, 0⟩ : S28), (⟨7, (⟨#[]⟩ : ByteArray), (⟨#[]⟩ : ByteArray), 0, 0⟩ : S28)] : List (S28))) (inner := [.int .i64 4, .string (⟨#[]⟩ : ByteArray), .string (⟨#[88, 45, 65]⟩ : ByteArray), .int .i64 0, .int .i64 0, .int .i64 7, .string (⟨#[]⟩ : ByteArray), .string (⟨#[]⟩ : ByteArray), .int .i64 0, .int .i64 0]) (ok := fun _ => True) (okp := fun _ => True) ?hr ?hp (fun _ hk => hk) trivial (Below.refl _ _) (Nat.le_refl _) (by simp) ?_; (case hd => rfl); (case hg => rfl); (case hr => first | (go_simp; done) | (go_simp; rfl)); (case hp => exact (Reps.c5 (show Kd.M k28 _ _ _ (⟨4, (⟨#[]⟩ : ByteArray), (⟨#[88, 45, 65]⟩ : ByteArray), 0, 0⟩ : S28) [.int .i64 4, .string (⟨#[]⟩ : ByteArray), .string (⟨#[88, 45, 65]⟩ : ByteArray), .int .i64 0, .int .i64 0] from (k28_mkM _ _ _ (⟨4, (⟨#[]⟩ : ByteArray), (⟨#[88, 45, 65]⟩ : ByteArray), 0, 0⟩ : S28) )) (Reps.c5 (show Kd.M k28 _ _ _ (⟨7, (⟨#[]⟩ : ByteArray), (⟨#[]⟩ : ByteArray), 0, 0⟩ : S28) [.int .i64 7, .string (⟨#[]⟩ : ByteArray), .string (⟨#[]⟩ : ByteArray), .int .i64 0, .int .i64 0] from (k28_mkM _ _ _ (⟨7, (⟨#[]⟩ : ByteArray), (⟨#[]⟩ : ByteArray), 0, 0⟩ : S28) )) (Reps.none _ _)))); intro v273 w6 ho7 hb hg_ hnew_; clear hg_ hnew_; (first | rw [← Ny272.out] at ho7 | (simp only [Int.reduceToNat] at ho7; rw [← Ny272.out] at ho7)); have n0_ := Aside0.mk (Kd.R_lower ho7 (below_size (by repeat (first | (with_reducible first | exact HB.out | apply below_alloc | apply pw_below_drewN | apply below_drew1) | exact HB.out)))); have n1_ := Aside0.mk (below_step (by repeat (first | (with_reducible first | exact HB.out | apply below_alloc | apply pw_below_drewN | apply below_drew1) | exact HB.out)) hb); clear HB; have HO274 := n0_; have HB := n1_; clear n0_ n1_; clear hb ho7; obtain ⟨Ao8, co8, eo8⟩ := Kd.R_slice HO274.out; subst eo8) | ((with_reducible refine gate_callee (f := 9) rfl ?_); refine goesL_ (some 22) rfl rfl Try.func9 (by kernel_rfl) rfl #[.slice Ao8 y272.length co8] rfl (by (try simp only [List.map_toArray, List.map_cons, List.map_nil]); first | done | rfl | (simp only [List.length_drop, List.length_take]; rfl)) ?_; (with_reducible refine (impl_TrailerScript.calls _ _ y272 t275 t276 t277 _ ?side1 ?side2 A4.out).mono ?_); (case side1 => repeat (first | exact (Kd.R_reads' HO274.out).2.2 | (with_reducible refine Kd.C_alloc ?_ _) | (with_reducible refine Kd.C_drewN ?_ _) | (with_reducible refine Kd.C_drew ?_))); (case side2 => exact (Kd.R_reads' HO274.out).2.1); rintro e w9 ⟨v278, rfl, ho0, hb⟩; refine ⟨_, rfl, ?_⟩; have n0_ := Aside0.mk (Kd.R_below (by (with_reducible repeat (first | apply Kd.R_alloc | apply Kd.R_drewN | apply Kd.R_drew)); exact HO274.out) hb); have n1_ := Aside0.mk (Kd.S_lower ho0 (below_size (by repeat (first | (with_reducible first | exact HB.out | apply below_alloc | apply pw_below_drewN | apply below_drew1) | exact HB.out)))); have n2_ := Aside0.mk (below_step (by repeat (first | (with_reducible first | exact HB.out | apply below_alloc | apply pw_below_drewN | apply below_drew1) | exact HB.out)) hb); clear HO274; clear HB; have HO274 := n0_; have HO279 := n1_; have HB := n2_; clear n0_ n1_ n2_; (try clear hb); (try clear hb2); (try clear hk); (try clear hi); (try clear ho0)))
  (try simp only [Act.put, List.setIfInBounds_toArray, List.set_cons_zero, List.set_cons_succ])
  go_cut [57] (fun v57 wc => ∃ (kq : Nat) (x57_4 : Bool), v57 = .bool x57_4 ∧ Aside0 (laws_FnTrailerNames.j0 kq l0 x57_4 = some r) ∧ Aside0 (kq ≤ k) ∧ Aside0 (Below w.heap.size w wc))
  case first =>
   have H := HC5.out
   clear HC5
   by_cases c10 : t277 = true
   ·subst c10
    have H1 : (if (t275.length : Int) = 2 then (if 0 < (t275.length : Int) then (if ((rd_T32 t275 0).f1 = true) then (if 1 < (t275.length : Int) then (if (((rd_T32 t275 1).f4).length : Int) = 1 then (if 0 < (((rd_T32 t275 1).f4).length : Int) then (laws_FnTrailerNames.j0 k l0 (((rd_T34 ((rd_T32 t275 1).f4) 0).f0).toList != ([88, 45, 65] : List UInt8))) else (none)) else (laws_FnTrailerNames.j0 k l0 true)) else (none)) else (laws_FnTrailerNames.j0 k l0 true)) else (none)) else (laws_FnTrailerNames.j0 k l0 true)) = some r := by rw [if_pos rfl] at H; exact H
    clear H
    have H := H1
    clear H1
    by_cases c11 : (t275.length : Int) = 2
    ·rw [if_pos c11] at H
     have c11b0 : ((t275.length : Int) == 2) = true := beq_iff_eq.mpr c11
     have c11b1 : ((t275.length : Int) != 2) = false := bne_eq_false_iff_eq.mpr c11
     clear c11
     (first | rw [c11b0] | (simp only [i64_w, i32_w]; rw [c11b0]) | skip)
     by_cases c12 : 0 < (t275.length : Int)
     ·rw [if_pos c12] at H
      have c12b0 : decide (0 < (t275.length : Int)) = true := decide_eq_true c12
      have c12b1 : decide (0 < t275.length) = true := decide_eq_true (by omega)
      clear c12
      obtain ⟨bq13, hbq13⟩ : ∃ b_ : Bool, b_ = ((rd_T32 t275 0).f1) := ⟨_, rfl⟩
      replace H : (if (bq13 = true) then (if 1 < (t275.length : Int) then (if (((rd_T32 t275 1).f4).length : Int) = 1 then (if 0 < (((rd_T32 t275 1).f4).length : Int) then (laws_FnTrailerNames.j0 k l0 (((rd_T34 ((rd_T32 t275 1).f4) 0).f0).toList != ([88, 45, 65] : List UInt8))) else (none)) else (laws_FnTrailerNames.j0 k l0 true)) else (none)) else (laws_FnTrailerNames.j0 k l0 true)) = some r := by rw [← hbq13] at H; exact H
      have Nbq13 := Aside0.mk hbq13
      clear hbq13
      by_cases c14 : (bq13 = true)
      ·subst c14
       have H1 : (if 1 < (t275.length : Int) then (if (((rd_T32 t275 1).f4).length : Int) = 1 then (if 0 < (((rd_T32 t275 1).f4).length : Int) then (laws_FnTrailerNames.j0 k l0 (((rd_T34 ((rd_T32 t275 1).f4) 0).f0).toList != ([88, 45, 65] : List UInt8))) else (none)) else (laws_FnTrailerNames.j0 k l0 true)) else (none)) = some r := by rw [if_pos rfl] at H; exact H
       clear H
       have H := H1
       clear H1
       by_cases c15 : 1 < (t275.length : Int)
       ·rw [if_pos c15] at H
        have c15b0 : decide (1 < (t275.length : Int)) = true := decide_eq_true c15
        have c15b1 : decide (1 < t275.length) = true := decide_eq_true (by omega)
        clear c15
        by_cases c16 : (((rd_T32 t275 1).f4).length : Int) = 1
        ·rw [if_pos c16] at H
         have c16b0 : ((((rd_T32 t275 1).f4).length : Int) == 1) = true := beq_iff_eq.mpr c16
         have c16b1 : ((((rd_T32 t275 1).f4).length : Int) != 1) = false := bne_eq_false_iff_eq.mpr c16
         clear c16
         by_cases c17 : 0 < (((rd_T32 t275 1).f4).length : Int)
         ·rw [if_pos c17] at H
          have c17b0 : decide (0 < (((rd_T32 t275 1).f4).length : Int)) = true := decide_eq_true c17
          have c17b1 : decide (0 < ((rd_T32 t275 1).f4).length) = true := decide_eq_true (by omega)
          clear c17
          have H' := Aside0.mk H
          clear H
          obtain ⟨Ao18, co18, eo18⟩ := Kd.S_slice HO279.out
          subst eo18
          have p280 : 0 ≤ (0 : Int) := (by omega)
          have q280 : 0 < (t275.length : Int) := of_decide_eq_true (by first | (with_reducible assumption) | assumption)
          obtain ⟨ad280, A280_3, c280_3, A280_4, c280_4, e280, hx280_0, hx280_1, hx280_2, hx280_3, hx280_4, hl280_3, hi280_3, hl280_4, hi280_4⟩ := at_T32 (Kd.S_reads' HO279.out).2.2 0 p280 q280
          (try rw [← Nbq13.out] at hx280_1)
          cases e280
          obtain ⟨ce280, hce280, hMe280, hcc280⟩ := Kd.S_get HO279.out z32 0 p280 (by first | exact q280 | exact of_decide_eq_true (by first | (with_reducible assumption) | assumption) | (have e_ := (Kd.S_reads' HO279.out).1; omega))
          obtain ⟨ve280_3, ve280_4, rfl, ge280_3, ge280_4⟩ := k32_openM hMe280
          have hv280_3 := hcc280 3 _ rfl
          rw [add_field _ _ 3 (by omega)] at hv280_3
          replace hv280_3 := Option.some.inj (hv280_3.symm.trans hx280_3)
          rw [hv280_3] at ge280_3
          have HL280_3 := Aside0.mk (show Kd.R Kd.string 9 _ _ _ _ ((rd_T32 t275 0).f3) from ge280_3)
          clear hv280_3 ge280_3
          have hv280_4 := hcc280 4 _ rfl
          rw [add_field _ _ 4 (by omega)] at hv280_4
          replace hv280_4 := Option.some.inj (hv280_4.symm.trans hx280_4)
          rw [hv280_4] at ge280_4
          have HL280_4 := Aside0.mk (show Kd.R k34 34 _ _ _ _ ((rd_T32 t275 0).f4) from ge280_4)
          clear hv280_4 ge280_4
          clear hcc280 hce280
          have qi280 : (0 < t275.length) = True := eq_true (by omega)
          (try rw [show ((0 : Int)).toNat = 0 from rfl] at hx280_0)
          (try rw [show 0 * 5 = 0 from rfl] at hx280_0)
          (try rw [Addr.add_zero'] at hx280_0)
          (try rw [show ((0 : Int)).toNat = 0 from rfl] at hx280_1)
          (try rw [show 0 * 5 = 0 from rfl] at hx280_1)
          (try rw [Addr.add_zero'] at hx280_1)
          (try rw [show ((0 : Int)).toNat = 0 from rfl] at hx280_2)
          (try rw [show 0 * 5 = 0 from rfl] at hx280_2)
          (try rw [Addr.add_zero'] at hx280_2)
          (try rw [show ((0 : Int)).toNat = 0 from rfl] at hx280_3)
          (try rw [show 0 * 5 = 0 from rfl] at hx280_3)
          (try rw [Addr.add_zero'] at hx280_3)
          (try rw [show ((0 : Int)).toNat = 0 from rfl] at hx280_4)
          (try rw [show 0 * 5 = 0 from rfl] at hx280_4)
          (try rw [Addr.add_zero'] at hx280_4)
          have HR280_3 := Aside0.mk hi280_3
          have HC280_3 := Aside0.mk hl280_3
          clear hi280_3 hl280_3
          have HR280_4 := Aside0.mk hi280_4
          have HC280_4 := Aside0.mk hl280_4
          clear hi280_4 hl280_4
          replace p280 := eq_true p280
          replace q280 := eq_true q280
          have p281 : 0 ≤ (1 : Int) := (by omega)
          have q281 : 1 < (t275.length : Int) := of_decide_eq_true (by first | (with_reducible assumption) | assumption)
          obtain ⟨ad281, A281_3, c281_3, A281_4, c281_4, e281, hx281_0, hx281_1, hx281_2, hx281_3, hx281_4, hl281_3, hi281_3, hl281_4, hi281_4⟩ := at_T32 (Kd.S_reads' HO279.out).2.2 1 p281 q281
          (try rw [← Nbq13.out] at hx281_1)
          obtain rfl : ad280 = ad281 := (by injection e281)
          obtain ⟨ce281, hce281, hMe281, hcc281⟩ := Kd.S_get HO279.out z32 1 p281 (by first | exact q281 | exact of_decide_eq_true (by first | (with_reducible assumption) | assumption) | (have e_ := (Kd.S_reads' HO279.out).1; omega))
          obtain ⟨ve281_3, ve281_4, rfl, ge281_3, ge281_4⟩ := k32_openM hMe281
          have hv281_3 := hcc281 3 _ rfl
          rw [add_field _ _ 3 (by omega)] at hv281_3
          replace hv281_3 := Option.some.inj (hv281_3.symm.trans hx281_3)
          rw [hv281_3] at ge281_3
          have HL281_3 := Aside0.mk (show Kd.R Kd.string 9 _ _ _ _ ((rd_T32 t275 1).f3) from ge281_3)
          clear hv281_3 ge281_3
          have hv281_4 := hcc281 4 _ rfl
          rw [add_field _ _ 4 (by omega)] at hv281_4
          replace hv281_4 := Option.some.inj (hv281_4.symm.trans hx281_4)
          rw [hv281_4] at ge281_4
          have HL281_4 := Aside0.mk (show Kd.R k34 34 _ _ _ _ ((rd_T32 t275 1).f4) from ge281_4)
          clear hv281_4 ge281_4
          clear hcc281 hce281
          (try simp only [show (1 : Int).toNat = 1 from rfl, Nat.reduceMul, Nat.reduceEqDiff, Go.Addr.add, ↓reduceIte] at hx281_0)
          (try simp only [show (1 : Int).toNat = 1 from rfl, Nat.reduceMul, Nat.reduceEqDiff, Go.Addr.add, ↓reduceIte] at hx281_1)
          (try simp only [show (1 : Int).toNat = 1 from rfl, Nat.reduceMul, Nat.reduceEqDiff, Go.Addr.add, ↓reduceIte] at hx281_2)
          (try simp only [show (1 : Int).toNat = 1 from rfl, Nat.reduceMul, Nat.reduceEqDiff, Go.Addr.add, ↓reduceIte] at hx281_3)
          (try simp only [show (1 : Int).toNat = 1 from rfl, Nat.reduceMul, Nat.reduceEqDiff, Go.Addr.add, ↓reduceIte] at hx281_4)
          have qi281 : (1 < t275.length) = True := eq_true (by omega)
          (try rw [show ((1 : Int)).toNat = 1 from rfl] at hx281_0)
          (try rw [show 1 * 5 = 5 from rfl] at hx281_0)
          (try rw [show ((1 : Int)).toNat = 1 from rfl] at hx281_1)
          (try rw [show 1 * 5 = 5 from rfl] at hx281_1)
          (try rw [show ((1 : Int)).toNat = 1 from rfl] at hx281_2)
          (try rw [show 1 * 5 = 5 from rfl] at hx281_2)
          (try rw [show ((1 : Int)).toNat = 1 from rfl] at hx281_3)
          (try rw [show 1 * 5 = 5 from rfl] at hx281_3)
          (try rw [show ((1 : Int)).toNat = 1 from rfl] at hx281_4)
          (try rw [show 1 * 5 = 5 from rfl] at hx281_4)
          have HR281_3 := Aside0.mk hi281_3
          have HC281_3 := Aside0.mk hl281_3
          clear hi281_3 hl281_3
          have HR281_4 := Aside0.mk hi281_4
          have HC281_4 := Aside0.mk hl281_4
          clear hi281_4 hl281_4
          replace p281 := eq_true p281
          replace q281 := eq_true q281
          have p282 : 0 ≤ (1 : Int) := (by omega)
          have q282 : 1 < (t275.length : Int) := of_decide_eq_true (by first | (with_reducible assumption) | assumption)
          obtain ⟨ad282, A282_3, c282_3, A282_4, c282_4, e282, hx282_0, hx282_1, hx282_2, hx282_3, hx282_4, hl282_3, hi282_3, hl282_4, hi282_4⟩ := at_T32 (Kd.S_reads' HO279.out).2.2 1 p282 q282
          (try rw [← Nbq13.out] at hx282_1)
          obtain rfl : ad280 = ad282 := (by injection e282)
          obtain ⟨ce282, hce282, hMe282, hcc282⟩ := Kd.S_get HO279.out z32 1 p282 (by first | exact q282 | exact of_decide_eq_true (by first | (with_reducible assumption) | assumption) | (have e_ := (Kd.S_reads' HO279.out).1; omega))
          obtain ⟨ve282_3, ve282_4, rfl, ge282_3, ge282_4⟩ := k32_openM hMe282
          have hv282_3 := hcc282 3 _ rfl
          rw [add_field _ _ 3 (by omega)] at hv282_3
          replace hv282_3 := Option.some.inj (hv282_3.symm.trans hx282_3)
          rw [hv282_3] at ge282_3
          have HL282_3 := Aside0.mk (show Kd.R Kd.string 9 _ _ _ _ ((rd_T32 t275 1).f3) from ge282_3)
          clear hv282_3 ge282_3
          have hv282_4 := hcc282 4 _ rfl
          rw [add_field _ _ 4 (by omega)] at hv282_4
          replace hv282_4 := Option.some.inj (hv282_4.symm.trans hx282_4)
          rw [hv282_4] at ge282_4
          have HL282_4 := Aside0.mk (show Kd.R k34 34 _ _ _ _ ((rd_T32 t275 1).f4) from ge282_4)
          clear hv282_4 ge282_4
          clear hcc282 hce282
          (try simp only [show (1 : Int).toNat = 1 from rfl, Nat.reduceMul, Nat.reduceEqDiff, Go.Addr.add, ↓reduceIte] at hx282_0)
          (try simp only [show (1 : Int).toNat = 1 from rfl, Nat.reduceMul, Nat.reduceEqDiff, Go.Addr.add, ↓reduceIte] at hx282_1)
          (try simp only [show (1 : Int).toNat = 1 from rfl, Nat.reduceMul, Nat.reduceEqDiff, Go.Addr.add, ↓reduceIte] at hx282_2)
          (try simp only [show (1 : Int).toNat = 1 from rfl, Nat.reduceMul, Nat.reduceEqDiff, Go.Addr.add, ↓reduceIte] at hx282_3)
          (try simp only [show (1 : Int).toNat = 1 from rfl, Nat.reduceMul, Nat.reduceEqDiff, Go.Addr.add, ↓reduceIte] at hx282_4)
          have qi282 : (1 < t275.length) = True := eq_true (by omega)
          (try rw [show ((1 : Int)).toNat = 1 from rfl] at hx282_0)
          (try rw [show 1 * 5 = 5 from rfl] at hx282_0)
          (try rw [show ((1 : Int)).toNat = 1 from rfl] at hx282_1)
          (try rw [show 1 * 5 = 5 from rfl] at hx282_1)
          (try rw [show ((1 : Int)).toNat = 1 from rfl] at hx282_2)
          (try rw [show 1 * 5 = 5 from rfl] at hx282_2)
          (try rw [show ((1 : Int)).toNat = 1 from rfl] at hx282_3)
          (try rw [show 1 * 5 = 5 from rfl] at hx282_3)
          (try rw [show ((1 : Int)).toNat = 1 from rfl] at hx282_4)
          (try rw [show 1 * 5 = 5 from rfl] at hx282_4)
          have HR282_3 := Aside0.mk hi282_3
          have HC282_3 := Aside0.mk hl282_3
          clear hi282_3 hl282_3
          have HR282_4 := Aside0.mk hi282_4
          have HC282_4 := Aside0.mk hl282_4
          clear hi282_4 hl282_4
          replace p282 := eq_true p282
          replace q282 := eq_true q282
          have ea_ := Option.some.inj (hx281_3.symm.trans hx282_3)
          injection ea_ with ea_ en_ ec_
          subst ea_
          subst ec_
          clear en_
          have ea_ := Option.some.inj (hx281_4.symm.trans hx282_4)
          injection ea_ with ea_ en_ ec_
          subst ea_
          subst ec_
          clear en_
          have p283 : 0 ≤ (0 : Int) := (by omega)
          have q283 : 0 < (((rd_T32 t275 1).f4).length : Int) := of_decide_eq_true (by first | (with_reducible assumption) | assumption)
          obtain ⟨ad283, e283, hx283_0, hx283_1⟩ := at_T34 (by first | (with_reducible exact HR282_4.out) | (with_reducible exact Kd.C_drewN HR282_4.out _) | (with_reducible exact Kd.C_drew HR282_4.out) | (with_reducible exact Kd.C_alloc HR282_4.out _) | repeat (first | (with_reducible exact HR282_4.out) | (with_reducible refine Kd.C_alloc ?_ _) | (with_reducible refine Kd.C_drewN ?_ _) | (with_reducible refine Kd.C_drew ?_) | exact HR282_4.out)) 0 p283 q283
          cases e283
          have qi283 : (0 < ((rd_T32 t275 1).f4).length) = True := eq_true (by omega)
          (try rw [show ((0 : Int)).toNat = 0 from rfl] at hx283_0)
          (try rw [show 0 * 2 = 0 from rfl] at hx283_0)
          (try rw [Addr.add_zero'] at hx283_0)
          (try rw [show ((0 : Int)).toNat = 0 from rfl] at hx283_1)
          (try rw [show 0 * 2 = 0 from rfl] at hx283_1)
          (try rw [Addr.add_zero'] at hx283_1)
          replace p283 := eq_true p283
          replace q283 := eq_true q283
          go_wp2
          go_meet
          case rel => exact ⟨_, ((((rd_T34 ((rd_T32 t275 1).f4) 0).f0).toList != ([88, 45, 65] : List UInt8))), (by first | rfl | (simp; done) | (rw [prx_ne]; first | done | rfl) | (simp [*]; done)), H', ⟨by first | omega | exact Nat.le_refl _⟩, ⟨by repeat (first | (with_reducible first | exact HB.out | apply below_alloc | apply pw_below_drewN | apply below_drew1) | exact HB.out)⟩⟩
         ·rw [if_neg c17] at H
          exact absurd H (by simp)
        ·rw [if_neg c16] at H
         have c16b0 : ((((rd_T32 t275 1).f4).length : Int) == 1) = false := beq_eq_false_iff_ne.mpr c16
         have c16b1 : ((((rd_T32 t275 1).f4).length : Int) != 1) = true := bne_iff_ne.mpr c16
         have H' := Aside0.mk H
         clear H
         obtain ⟨Ao19, co19, eo19⟩ := Kd.S_slice HO279.out
         subst eo19
         have p280 : 0 ≤ (0 : Int) := (by omega)
         have q280 : 0 < (t275.length : Int) := of_decide_eq_true (by first | (with_reducible assumption) | assumption)
         obtain ⟨ad280, A280_3, c280_3, A280_4, c280_4, e280, hx280_0, hx280_1, hx280_2, hx280_3, hx280_4, hl280_3, hi280_3, hl280_4, hi280_4⟩ := at_T32 (Kd.S_reads' HO279.out).2.2 0 p280 q280
         (try rw [← Nbq13.out] at hx280_1)
         cases e280
         obtain ⟨ce280, hce280, hMe280, hcc280⟩ := Kd.S_get HO279.out z32 0 p280 (by first | exact q280 | exact of_decide_eq_true (by first | (with_reducible assumption) | assumption) | (have e_ := (Kd.S_reads' HO279.out).1; omega))
         obtain ⟨ve280_3, ve280_4, rfl, ge280_3, ge280_4⟩ := k32_openM hMe280
         have hv280_3 := hcc280 3 _ rfl
         rw [add_field _ _ 3 (by omega)] at hv280_3
         replace hv280_3 := Option.some.inj (hv280_3.symm.trans hx280_3)
         rw [hv280_3] at ge280_3
         have HL280_3 := Aside0.mk (show Kd.R Kd.string 9 _ _ _ _ ((rd_T32 t275 0).f3) from ge280_3)
         clear hv280_3 ge280_3
         have hv280_4 := hcc280 4 _ rfl
         rw [add_field _ _ 4 (by omega)] at hv280_4
         replace hv280_4 := Option.some.inj (hv280_4.symm.trans hx280_4)
         rw [hv280_4] at ge280_4
         have HL280_4 := Aside0.mk (show Kd.R k34 34 _ _ _ _ ((rd_T32 t275 0).f4) from ge280_4)
         clear hv280_4 ge280_4
         clear hcc280 hce280
         have qi280 : (0 < t275.length) = True := eq_true (by omega)
         (try rw [show ((0 : Int)).toNat = 0 from rfl] at hx280_0)
         (try rw [show 0 * 5 = 0 from rfl] at hx280_0)
         (try rw [Addr.add_zero'] at hx280_0)
         (try rw [show ((0 : Int)).toNat = 0 from rfl] at hx280_1)
         (try rw [show 0 * 5 = 0 from rfl] at hx280_1)
         (try rw [Addr.add_zero'] at hx280_1)
         (try rw [show ((0 : Int)).toNat = 0 from rfl] at hx280_2)
         (try rw [show 0 * 5 = 0 from rfl] at hx280_2)
         (try rw [Addr.add_zero'] at hx280_2)
         (try rw [show ((0 : Int)).toNat = 0 from rfl] at hx280_3)
         (try rw [show 0 * 5 = 0 from rfl] at hx280_3)
         (try rw [Addr.add_zero'] at hx280_3)
         (try rw [show ((0 : Int)).toNat = 0 from rfl] at hx280_4)
         (try rw [show 0 * 5 = 0 from rfl] at hx280_4)
         (try rw [Addr.add_zero'] at hx280_4)
         have HR280_3 := Aside0.mk hi280_3
         have HC280_3 := Aside0.mk hl280_3
         clear hi280_3 hl280_3
         have HR280_4 := Aside0.mk hi280_4
         have HC280_4 := Aside0.mk hl280_4
         clear hi280_4 hl280_4
         replace p280 := eq_true p280
         replace q280 := eq_true q280
         have p281 : 0 ≤ (1 : Int) := (by omega)
         have q281 : 1 < (t275.length : Int) := of_decide_eq_true (by first | (with_reducible assumption) | assumption)
         obtain ⟨ad281, A281_3, c281_3, A281_4, c281_4, e281, hx281_0, hx281_1, hx281_2, hx281_3, hx281_4, hl281_3, hi281_3, hl281_4, hi281_4⟩ := at_T32 (Kd.S_reads' HO279.out).2.2 1 p281 q281
         (try rw [← Nbq13.out] at hx281_1)
         obtain rfl : ad280 = ad281 := (by injection e281)
         obtain ⟨ce281, hce281, hMe281, hcc281⟩ := Kd.S_get HO279.out z32 1 p281 (by first | exact q281 | exact of_decide_eq_true (by first | (with_reducible assumption) | assumption) | (have e_ := (Kd.S_reads' HO279.out).1; omega))
         obtain ⟨ve281_3, ve281_4, rfl, ge281_3, ge281_4⟩ := k32_openM hMe281
         have hv281_3 := hcc281 3 _ rfl
         rw [add_field _ _ 3 (by omega)] at hv281_3
         replace hv281_3 := Option.some.inj (hv281_3.symm.trans hx281_3)
         rw [hv281_3] at ge281_3
         have HL281_3 := Aside0.mk (show Kd.R Kd.string 9 _ _ _ _ ((rd_T32 t275 1).f3) from ge281_3)
         clear hv281_3 ge281_3
         have hv281_4 := hcc281 4 _ rfl
         rw [add_field _ _ 4 (by omega)] at hv281_4
         replace hv281_4 := Option.some.inj (hv281_4.symm.trans hx281_4)
         rw [hv281_4] at ge281_4
         have HL281_4 := Aside0.mk (show Kd.R k34 34 _ _ _ _ ((rd_T32 t275 1).f4) from ge281_4)
         clear hv281_4 ge281_4
         clear hcc281 hce281
         (try simp only [show (1 : Int).toNat = 1 from rfl, Nat.reduceMul, Nat.reduceEqDiff, Go.Addr.add, ↓reduceIte] at hx281_0)
         (try simp only [show (1 : Int).toNat = 1 from rfl, Nat.reduceMul, Nat.reduceEqDiff, Go.Addr.add, ↓reduceIte] at hx281_1)
         (try simp only [show (1 : Int).toNat = 1 from rfl, Nat.reduceMul, Nat.reduceEqDiff, Go.Addr.add, ↓reduceIte] at hx281_2)
         (try simp only [show (1 : Int).toNat = 1 from rfl, Nat.reduceMul, Nat.reduceEqDiff, Go.Addr.add, ↓reduceIte] at hx281_3)
         (try simp only [show (1 : Int).toNat = 1 from rfl, Nat.reduceMul, Nat.reduceEqDiff, Go.Addr.add, ↓reduceIte] at hx281_4)
         have qi281 : (1 < t275.length) = True := eq_true (by omega)
         (try rw [show ((1 : Int)).toNat = 1 from rfl] at hx281_0)
         (try rw [show 1 * 5 = 5 from rfl] at hx281_0)
         (try rw [show ((1 : Int)).toNat = 1 from rfl] at hx281_1)
         (try rw [show 1 * 5 = 5 from rfl] at hx281_1)
         (try rw [show ((1 : Int)).toNat = 1 from rfl] at hx281_2)
         (try rw [show 1 * 5 = 5 from rfl] at hx281_2)
         (try rw [show ((1 : Int)).toNat = 1 from rfl] at hx281_3)
         (try rw [show 1 * 5 = 5 from rfl] at hx281_3)
         (try rw [show ((1 : Int)).toNat = 1 from rfl] at hx281_4)
         (try rw [show 1 * 5 = 5 from rfl] at hx281_4)
         have HR281_3 := Aside0.mk hi281_3
         have HC281_3 := Aside0.mk hl281_3
         clear hi281_3 hl281_3
         have HR281_4 := Aside0.mk hi281_4
         have HC281_4 := Aside0.mk hl281_4
         clear hi281_4 hl281_4
         replace p281 := eq_true p281
         replace q281 := eq_true q281
         go_wp2
         go_meet
         case rel => exact ⟨_, (true), (by first | rfl | (simp; done) | (rw [prx_ne]; first | done | rfl) | (simp [*]; done)), H', ⟨by first | omega | exact Nat.le_refl _⟩, ⟨by repeat (first | (with_reducible first | exact HB.out | apply below_alloc | apply pw_below_drewN | apply below_drew1) | exact HB.out)⟩⟩
       ·rw [if_neg c15] at H
        exact absurd H (by simp)
      ·replace c14 := Bool.eq_false_iff.mpr c14
       subst c14
       have H1 : (laws_FnTrailerNames.j0 k l0 true) = some r := by rw [if_neg (show ¬ (false = true) by decide)] at H; exact H
       clear H
       have H := H1
       clear H1
       have H' := Aside0.mk H
       clear H
       obtain ⟨Ao20, co20, eo20⟩ := Kd.S_slice HO279.out
       subst eo20
       have p280 : 0 ≤ (0 : Int) := (by omega)
       have q280 : 0 < (t275.length : Int) := of_decide_eq_true (by first | (with_reducible assumption) | assumption)
       obtain ⟨ad280, A280_3, c280_3, A280_4, c280_4, e280, hx280_0, hx280_1, hx280_2, hx280_3, hx280_4, hl280_3, hi280_3, hl280_4, hi280_4⟩ := at_T32 (Kd.S_reads' HO279.out).2.2 0 p280 q280
       (try rw [← Nbq13.out] at hx280_1)
       cases e280
       obtain ⟨ce280, hce280, hMe280, hcc280⟩ := Kd.S_get HO279.out z32 0 p280 (by first | exact q280 | exact of_decide_eq_true (by first | (with_reducible assumption) | assumption) | (have e_ := (Kd.S_reads' HO279.out).1; omega))
       obtain ⟨ve280_3, ve280_4, rfl, ge280_3, ge280_4⟩ := k32_openM hMe280
       have hv280_3 := hcc280 3 _ rfl
       rw [add_field _ _ 3 (by omega)] at hv280_3
       replace hv280_3 := Option.some.inj (hv280_3.symm.trans hx280_3)
       rw [hv280_3] at ge280_3
       have HL280_3 := Aside0.mk (show Kd.R Kd.string 9 _ _ _ _ ((rd_T32 t275 0).f3) from ge280_3)
       clear hv280_3 ge280_3
       have hv280_4 := hcc280 4 _ rfl
       rw [add_field _ _ 4 (by omega)] at hv280_4
       replace hv280_4 := Option.some.inj (hv280_4.symm.trans hx280_4)
       rw [hv280_4] at ge280_4
       have HL280_4 := Aside0.mk (show Kd.R k34 34 _ _ _ _ ((rd_T32 t275 0).f4) from ge280_4)
       clear hv280_4 ge280_4
       clear hcc280 hce280
       have qi280 : (0 < t275.length) = True := eq_true (by omega)
       (try rw [show ((0 : Int)).toNat = 0 from rfl] at hx280_0)
       (try rw [show 0 * 5 = 0 from rfl] at hx280_0)
       (try rw [Addr.add_zero'] at hx280_0)
       (try rw [show ((0 : Int)).toNat = 0 from rfl] at hx280_1)
       (try rw [show 0 * 5 = 0 from rfl] at hx280_1)
       (try rw [Addr.add_zero'] at hx280_1)
       (try rw [show ((0 : Int)).toNat = 0 from rfl] at hx280_2)
       (try rw [show 0 * 5 = 0 from rfl] at hx280_2)
       (try rw [Addr.add_zero'] at hx280_2)
       (try rw [show ((0 : Int)).toNat = 0 from rfl] at hx280_3)
       (try rw [show 0 * 5 = 0 from rfl] at hx280_3)
       (try rw [Addr.add_zero'] at hx280_3)
       (try rw [show ((0 : Int)).toNat = 0 from rfl] at hx280_4)
       (try rw [show 0 * 5 = 0 from rfl] at hx280_4)
       (try rw [Addr.add_zero'] at hx280_4)
       have HR280_3 := Aside0.mk hi280_3
       have HC280_3 := Aside0.mk hl280_3
       clear hi280_3 hl280_3
       have HR280_4 := Aside0.mk hi280_4
       have HC280_4 := Aside0.mk hl280_4
       clear hi280_4 hl280_4
       replace p280 := eq_true p280
       replace q280 := eq_true q280
       go_wp2
       go_meet
       case rel => exact ⟨_, (true), (by first | rfl | (simp; done) | (rw [prx_ne]; first | done | rfl) | (simp [*]; done)), H', ⟨by first | omega | exact Nat.le_refl _⟩, ⟨by repeat (first | (with_reducible first | exact HB.out | apply below_alloc | apply pw_below_drewN | apply below_drew1) | exact HB.out)⟩⟩
     ·rw [if_neg c12] at H
      exact absurd H (by simp)
    ·rw [if_neg c11] at H
     have c11b0 : ((t275.length : Int) == 2) = false := beq_eq_false_iff_ne.mpr c11
     have c11b1 : ((t275.length : Int) != 2) = true := bne_iff_ne.mpr c11
     (first | rw [c11b0] | (simp only [i64_w, i32_w]; rw [c11b0]) | skip)
     have H' := Aside0.mk H
     clear H
     obtain ⟨Ao21, co21, eo21⟩ := Kd.S_slice HO279.out
     subst eo21
     go_wp2
     go_meet
     case rel => exact ⟨_, (true), (by first | rfl | (simp; done) | (rw [prx_ne]; first | done | rfl) | (simp [*]; done)), H', ⟨by first | omega | exact Nat.le_refl _⟩, ⟨by repeat (first | (with_reducible first | exact HB.out | apply below_alloc | apply pw_below_drewN | apply below_drew1) | exact HB.out)⟩⟩
   ·replace c10 := Bool.eq_false_iff.mpr c10
    subst c10
    have H1 : (laws_FnTrailerNames.j0 k l0 true) = some r := by rw [if_neg (show ¬ (false = true) by decide)] at H; exact H
    clear H
    have H := H1
    clear H1
    have H' := Aside0.mk H
    clear H
    go_wp2
    go_meet
    case rel => exact ⟨_, (true), (by first | rfl | (simp; done) | (rw [prx_ne]; first | done | rfl) | (simp [*]; done)), H', ⟨by first | omega | exact Nat.le_refl _⟩, ⟨by repeat (first | (with_reducible first | exact HB.out | apply below_alloc | apply pw_below_drewN | apply below_drew1) | exact HB.out)⟩⟩
  case rest =>
   clear HC5
   try clear c1
   try clear q1
   try clear c2
   try clear p2
   try clear q2
   try clear hx2
   try clear qi2
   try clear c3
   try clear c5
   try clear c8
   try clear c9
   try clear c10
   try clear c11
   try clear c11b0
   try clear c11b1
   try clear c12
   try clear c12b0
   try clear c12b1
   try clear q13
   try clear c14
   try clear c15
   try clear c15b0
   try clear c15b1
   try clear c16
   try clear c16b0
   try clear c16b1
   try clear c17
   try clear c17b0
   try clear c17b1
   try clear hx280_0
   try clear hx280_1
   try clear hx280_2
   try clear hx280_3
   try clear hx280_4
   try clear hx281_0
   try clear hx281_1
   try clear hx281_2
   try clear hx281_3
   try clear hx281_4
   try clear hx282_0
   try clear hx282_1
   try clear hx282_2
   try clear hx282_3
   try clear hx282_4
   try clear hx283_0
   try clear hx283_1
   try clear p280
   try clear p281
   try clear p282
   try clear p283
   try clear q280
   try clear q281
   try clear q282
   try clear q283
   obtain ⟨kq, x57_4, rfl, HA, HJ4, HB⟩ := hcut
   cases kq with
   | zero => exact absurd HA.out (by simp [laws_FnTrailerNames.j0])
   | succ kj4 =>
    have H := HA.out
    clear HA
    simp only [laws_FnTrailerNames.j0] at H
    by_cases c22 : x57_4 = true
    ·subst c22
     have H1 : (some false) = some r := by rw [if_pos rfl] at H; exact H
     clear H
     have H := H1
     clear H1
     obtain rfl := Option.some.inj H
     go_wp2
     go_ret
     exact ⟨by first | rfl | (simp [errW_none, errW_some] <;> rfl) | (simp [*, errW_none, errW_some] <;> rfl), by repeat (first | (with_reducible first | exact HB.out | apply below_alloc | apply pw_below_drewN | apply below_drew1) | exact HB.out)⟩
    ·replace c22 := Bool.eq_false_iff.mpr c22
     subst c22
     have H1 : (if (l0.length : Int) = 0 then (laws_FnTrailerNames.j1 kj4 l0 true) else (laws_FnTrailerNames.j1 kj4 l0 (decide ((l0.length : Int) > 12)))) = some r := by rw [if_neg (show ¬ (false = true) by decide)] at H; exact H
     clear H
     have H := H1
     clear H1
     have HC23 := Aside0.mk H
     clear H
     go_upto_region 6 with (fail)
     go_cut [65] (fun v65 wc => ∃ (kq : Nat) (x65_22 : Bool), v65 = .bool x65_22 ∧ Aside0 (laws_FnTrailerNames.j1 kq l0 x65_22 = some r) ∧ Aside0 (kq ≤ kj4) ∧ Aside0 (Below w.heap.size w wc))
     case first =>
      have H := HC23.out
      clear HC23
      by_cases c24 : (l0.length : Int) = 0
      ·rw [if_pos c24] at H
       have c24b0 : ((l0.length : Int) == 0) = true := beq_iff_eq.mpr c24
       have c24b1 : ((l0.length : Int) != 0) = false := bne_eq_false_iff_eq.mpr c24
       clear c24
       (first | rw [c24b0] | (simp only [i64_w, i32_w]; rw [c24b0]) | skip)
       have H' := Aside0.mk H
       clear H
       go_wp2
       go_meet
       case rel => exact ⟨_, (true), (by first | rfl | (simp; done) | (rw [prx_ne]; first | done | rfl) | (simp [*]; done)), H', ⟨by have := HJ4.out; first | omega | exact Nat.le_refl _⟩, ⟨by repeat (first | (with_reducible first | exact HB.out | apply below_alloc | apply pw_below_drewN | apply below_drew1) | exact HB.out)⟩⟩
      ·rw [if_neg c24] at H
       have c24b0 : ((l0.length : Int) == 0) = false := beq_eq_false_iff_ne.mpr c24
       have c24b1 : ((l0.length : Int) != 0) = true := bne_iff_ne.mpr c24
       have c24b2 : ¬ (l0 = []) := fun h_ => c24 (by rw [h_]; rfl)
       (first | rw [c24b0] | (simp only [i64_w, i32_w]; rw [c24b0]) | skip)
       have H' := Aside0.mk H
       clear H
       go_wp2
       go_meet
       case rel => exact ⟨_, (decide ((l0.length : Int) > 12)), (by first | rfl | (simp; done) | (rw [prx_ne]; first | done | rfl) | (simp [*]; done)), H', ⟨by have := HJ4.out; first | omega | exact Nat.le_refl _⟩, ⟨by repeat (first | (with_reducible first | exact HB.out | apply below_alloc | apply pw_below_drewN | apply below_drew1) | exact HB.out)⟩⟩
     case rest =>
      clear HC23
      try clear c1
      try clear q1
      try clear c2
      try clear p2
      try clear q2
      try clear hx2
      try clear qi2
      try clear c3
      try clear c5
      try clear c8
      try clear c9
      try clear c10
      try clear c11
      try clear c11b0
      try clear c11b1
      try clear c12
      try clear c12b0
      try clear c12b1
      try clear q13
      try clear c14
      try clear c15
      try clear c15b0
      try clear c15b1
      try clear c16
      try clear c16b0
      try clear c16b1
      try clear c17
      try clear c17b0
      try clear c17b1
      try clear c22
      try clear c24
      try clear c24b0
      try clear c24b1
      try clear c24b2
      try clear hx280_0
      try clear hx280_1
      try clear hx280_2
      try clear hx280_3
      try clear hx280_4
      try clear hx281_0
      try clear hx281_1
      try clear hx281_2
      try clear hx281_3
      try clear hx281_4
      try clear hx282_0
      try clear hx282_1
      try clear hx282_2
      try clear hx282_3
      try clear hx282_4
      try clear hx283_0
      try clear hx283_1
      try clear p2
      try clear p280
      try clear p281
      try clear p282
      try clear p283
      try clear q1
      try clear q13
      try clear q2
      try clear q280
      try clear q281
      try clear q282
      try clear q283
      obtain ⟨kq, x65_22, rfl, HA, HJ22, HB⟩ := hcut
      cases kq with
      | zero => exact absurd HA.out (by simp [laws_FnTrailerNames.j1])
      | succ kj22 =>
       have H := HA.out
       clear HA
       simp only [laws_FnTrailerNames.j1] at H
       by_cases c25 : x65_22 = true
       ·subst c25
        have H1 : (some true) = some r := by rw [if_pos rfl] at H; exact H
        clear H
        have H := H1
        clear H1
        obtain rfl := Option.some.inj H
        go_wp2
        go_ret
        exact ⟨by first | rfl | (simp [errW_none, errW_some] <;> rfl) | (simp [*, errW_none, errW_some] <;> rfl), by repeat (first | (with_reducible first | exact HB.out | apply below_alloc | apply pw_below_drewN | apply below_drew1) | exact HB.out)⟩
       ·replace c25 := Bool.eq_false_iff.mpr c25
        subst c25
        have H1 : (laws_FnTrailerNames.l0 kj22 l0 ([] : List (S34)) l0 (l0.length : Int) 0) = some r := by rw [if_neg (show ¬ (false = true) by decide)] at H; exact H
        clear H
        have H := H1
        clear H1
        have H' := Aside0.mk H
        clear H
        go_wp2
        go_loopg [6, 68] kj22 (fun kq v6 v68 w' => ∃ (x6_3 : List (S34)) (x68_3 : Int), v68 = .int .i64 x68_3 ∧ Aside0 (laws_FnTrailerNames.l0 kq l0 x6_3 l0 (l0.length : Int) x68_3 = some r) ∧ Aside0 (kq ≤ kj22) ∧ Aside0 (Kd.R k34 34 w' w.heap.size (fun _ => True) v6 x6_3) ∧ Aside0 (Below w.heap.size w w'))
        case atStart => exact ⟨(([] : List (S34))), (0), (by first | rfl | (simp; done) | (rw [prx_ne]; first | done | rfl) | (simp [*]; done)), H', ⟨Nat.le_refl _⟩, ⟨by first | exact Kd.R_nil _ _ _ _ _ | exact Kd.N_nil _ _ _ _ _ | exact Kd.V_nil _ _ _ _ _ | exact Kd.Q_nil _ _ _ _ _ | exact Kd.S_nil _ _ _ _ _⟩, ⟨by repeat (first | (with_reducible first | exact HB.out | apply below_alloc | apply pw_below_drewN | apply below_drew1) | exact HB.out)⟩⟩
        case round =>
         clear H'
         try clear c1
         try clear q1
         try clear c2
         try clear p2
         try clear q2
         try clear hx2
         try clear qi2
         try clear c3
         try clear c5
         try clear c8
         try clear c9
         try clear c10
         try clear c11
         try clear c11b0
         try clear c11b1
         try clear c12
         try clear c12b0
         try clear c12b1
         try clear q13
         try clear c14
         try clear c15
         try clear c15b0
         try clear c15b1
         try clear c16
         try clear c16b0
         try clear c16b1
         try clear c17
         try clear c17b0
         try clear c17b1
         try clear c22
         try clear c24
         try clear c24b0
         try clear c24b1
         try clear c24b2
         try clear c25
         try clear hx280_0
         try clear hx280_1
         try clear hx280_2
         try clear hx280_3
         try clear hx280_4
         try clear hx281_0
         try clear hx281_1
         try clear hx281_2
         try clear hx281_3
         try clear hx281_4
         try clear hx282_0
         try clear hx282_1
         try clear hx282_2
         try clear hx282_3
         try clear hx282_4
         try clear hx283_0
         try clear hx283_1
         try clear p2
         try clear p280
         try clear p281
         try clear p282
         try clear p283
         try clear q1
         try clear q13
         try clear q2
         try clear q280
         try clear q281
         try clear q282
         try clear q283
         obtain ⟨x6_3, x68_3, rfl, HA, HK3, HO_6, HB⟩ := hrel
         cases gk with
         | zero => exact absurd HA.out (by simp [laws_FnTrailerNames.l0])
         | succ k3 =>
          have H := HA.out
          clear HA
          simp only [laws_FnTrailerNames.l0] at H
          by_cases c26 : x68_3 < (l0.length : Int)
          ·rw [if_pos c26] at H
           have c26b0 : decide (x68_3 < (l0.length : Int)) = true := decide_eq_true c26
           clear c26
           by_cases c27 : 0 ≤ x68_3
           ·rw [if_pos c27] at H
            have c27b0 : decide (0 ≤ x68_3) = true := decide_eq_true c27
            clear c27
            by_cases c28 : x68_3 < (l0.length : Int)
            ·rw [if_pos c28] at H
             have c28b0 : decide (x68_3 < (l0.length : Int)) = true := decide_eq_true c28
             clear c28
             have HC29 := Aside0.mk H
             clear H
             have p284 : 0 ≤ (x68_3 : Int) := of_decide_eq_true (by first | (with_reducible assumption) | assumption)
             have q284 : x68_3 < (l0.length : Int) := of_decide_eq_true (by first | (with_reducible assumption) | assumption)
             obtain ⟨ad284, e284, hx284_0⟩ := Kd.at_string HR0.out x68_3 p284 q284
             cases e284
             replace hx284_0 := (HB.out.cell (World.block_lt_of_cell? w _ hx284_0)).trans hx284_0
             replace p284 := eq_true p284
             replace q284 := eq_true q284
             go_upto_region 12 with (fail)
             go_cut [79] (fun v79 wc => ∃ (kq : Nat) (x79_28 : Bool), v79 = .bool x79_28 ∧ Aside0 (laws_FnTrailerNames.j3 kq l0 x6_3 (rdOf ByteArray.empty l0 x68_3) l0 (l0.length : Int) x68_3 x79_28 = some r) ∧ Aside0 (kq ≤ k3) ∧ Aside0 (Kd.R k34 34 wc w.heap.size (fun _ => True) u6 x6_3) ∧ Aside0 (Below w.heap.size w wc))
             case first =>
              have H := HC29.out
              clear HC29
              replace H := Option.bind_eq_some_iff.mp H
              obtain ⟨t285, A300, H⟩ := H
              replace H : (if t285 = true then (laws_FnTrailerNames.j3 k3 l0 x6_3 (rdOf ByteArray.empty l0 x68_3) l0 (l0.length : Int) x68_3 false) else ((laws_forbidden.f (rdOf ByteArray.empty l0 x68_3)).bind fun t286 => (laws_FnTrailerNames.j3 k3 l0 x6_3 (rdOf ByteArray.empty l0 x68_3) l0 (l0.length : Int) x68_3 (!t286)))) = some r := H
              have A30 := Aside0.mk A300
              clear A300
              by_cases c31 : t285 = true
              ·subst c31
               have H1 : (laws_FnTrailerNames.j3 k3 l0 x6_3 (rdOf ByteArray.empty l0 x68_3) l0 (l0.length : Int) x68_3 false) = some r := by rw [if_pos rfl] at H; exact H
               clear H
               have H := H1
               clear H1
               have H' := Aside0.mk H
               clear H
               go_wp2_with (first | ((with_reducible refine gate_callee (f := 10) rfl ?_); refine goesL_ (some 73) rfl rfl Try.func10 (by kernel_rfl) rfl #[.string (rdOf ByteArray.empty l0 x68_3)] rfl (by (try simp only [List.map_toArray, List.map_cons, List.map_nil]); first | done | rfl | (simp only [List.length_drop, List.length_take]; rfl)) ?_; (with_reducible refine (laws_name.calls k3 (rdOf ByteArray.empty l0 x68_3) true _ A30.out).mono ?_); rintro e w' ⟨rfl, ⟨nd, rfl⟩⟩; refine ⟨_, rfl, ?_⟩))
               go_meet
               case rel => exact ⟨_, (false), (by first | rfl | (simp; done) | (rw [prx_ne]; first | done | rfl) | (simp [*]; done)), H', ⟨by have := HJ4.out; have := HJ22.out; have := HK3.out; first | omega | exact Nat.le_refl _⟩, ⟨by (with_reducible repeat (first | apply Kd.R_alloc | apply Kd.R_drewN | apply Kd.R_drew)); exact HO_6.out⟩, ⟨by repeat (first | (with_reducible first | exact HB.out | apply below_alloc | apply pw_below_drewN | apply below_drew1) | exact HB.out)⟩⟩
              ·replace c31 := Bool.eq_false_iff.mpr c31
               subst c31
               have H1 : ((laws_forbidden.f (rdOf ByteArray.empty l0 x68_3)).bind fun t286 => (laws_FnTrailerNames.j3 k3 l0 x6_3 (rdOf ByteArray.empty l0 x68_3) l0 (l0.length : Int) x68_3 (!t286))) = some r := by rw [if_neg (show ¬ (false = true) by decide)] at H; exact H
               clear H
               have H := H1
               clear H1
               replace H := Option.bind_eq_some_iff.mp H
               obtain ⟨t286, A320, H⟩ := H
               replace H : (laws_FnTrailerNames.j3 k3 l0 x6_3 (rdOf ByteArray.empty l0 x68_3) l0 (l0.length : Int) x68_3 (!t286)) = some r := H
               have A32 := Aside0.mk A320
               clear A320
               have H' := Aside0.mk H
               clear H
               go_wp2_with (first | ((with_reducible refine gate_callee (f := 10) rfl ?_); refine goesL_ (some 73) rfl rfl Try.func10 (by kernel_rfl) rfl #[.string (rdOf ByteArray.empty l0 x68_3)] rfl (by (try simp only [List.map_toArray, List.map_cons, List.map_nil]); first | done | rfl | (simp only [List.length_drop, List.length_take]; rfl)) ?_; (with_reducible refine (laws_name.calls k3 (rdOf ByteArray.empty l0 x68_3) false _ A30.out).mono ?_); rintro e w' ⟨rfl, ⟨nd, rfl⟩⟩; refine ⟨_, rfl, ?_⟩) | (go_at_call 11; (with_reducible refine (laws_forbidden.calls (rdOf ByteArray.empty l0 x68_3) t286 _ A32.out).mono ?_); rintro e w33 ⟨rfl, hb⟩; have n0_ := Aside0.mk (Kd.R_below (by (with_reducible repeat (first | apply Kd.R_alloc | apply Kd.R_drewN | apply Kd.R_drew)); exact HO_6.out) hb); have n1_ := Aside0.mk (below_step (by repeat (first | (with_reducible first | exact HB.out | apply below_alloc | apply pw_below_drewN | apply below_drew1) | exact HB.out)) hb); clear HO_6; clear HB; have HO_6 := n0_; have HB := n1_; clear n0_ n1_; (try clear hb); (try clear hb2); (try clear hk); (try clear hi)))
               go_meet
               case rel => exact ⟨_, (!t286), (by first | rfl | (simp; done) | (rw [prx_ne]; first | done | rfl) | (simp [*]; done)), H', ⟨by have := HJ4.out; have := HJ22.out; have := HK3.out; first | omega | exact Nat.le_refl _⟩, ⟨by (with_reducible repeat (first | apply Kd.R_alloc | apply Kd.R_drewN | apply Kd.R_drew)); exact HO_6.out⟩, ⟨by repeat (first | (with_reducible first | exact HB.out | apply below_alloc | apply pw_below_drewN | apply below_drew1) | exact HB.out)⟩⟩
             case rest =>
              clear HC29
              try clear c1
              try clear q1
              try clear c2
              try clear p2
              try clear q2
              try clear hx2
              try clear qi2
              try clear c3
              try clear c5
              try clear c8
              try clear c9
              try clear c10
              try clear c11
              try clear c11b0
              try clear c11b1
              try clear c12
              try clear c12b0
              try clear c12b1
              try clear q13
              try clear c14
              try clear c15
              try clear c15b0
              try clear c15b1
              try clear c16
              try clear c16b0
              try clear c16b1
              try clear c17
              try clear c17b0
              try clear c17b1
              try clear c22
              try clear c24
              try clear c24b0
              try clear c24b1
              try clear c24b2
              try clear c25
              try clear c26
              try clear c26b0
              try clear c27
              try clear c27b0
              try clear c28
              try clear c28b0
              try clear p28
              try clear q28
              try clear hx28
              try clear qi28
              try clear c31
              try clear hx280_0
              try clear hx280_1
              try clear hx280_2
              try clear hx280_3
              try clear hx280_4
              try clear hx281_0
              try clear hx281_1
              try clear hx281_2
              try clear hx281_3
              try clear hx281_4
              try clear hx282_0
              try clear hx282_1
              try clear hx282_2
              try clear hx282_3
              try clear hx282_4
              try clear hx283_0
              try clear hx283_1
              try clear hx284_0
              try clear p2
              try clear p280
              try clear p281
              try clear p282
              try clear p283
              try clear p284
              try clear q1
              try clear q13
              try clear q2
              try clear q280
              try clear q281
              try clear q282
              try clear q283
              try clear q284
              obtain ⟨kq, x79_28, rfl, HA, HJ28, HO_6, HB⟩ := hcut
              cases kq with
              | zero => exact absurd HA.out (by simp [laws_FnTrailerNames.j3])
              | succ kj28 =>
               have H := HA.out
               clear HA
               simp only [laws_FnTrailerNames.j3] at H
               by_cases c34 : x79_28 = true
               ·subst c34
                have H1 : (some true) = some r := by rw [if_pos rfl] at H; exact H
                clear H
                have H := H1
                clear H1
                obtain rfl := Option.some.inj H
                go_wp2
                go_ret
                exact ⟨by first | rfl | (simp [errW_none, errW_some] <;> rfl) | (simp [*, errW_none, errW_some] <;> rfl), by repeat (first | (with_reducible first | exact HB.out | apply below_alloc | apply pw_below_drewN | apply below_drew1) | exact HB.out)⟩
               ·replace c34 := Bool.eq_false_iff.mpr c34
                subst c34
                have H1 : ((laws_forbidden.f (rdOf ByteArray.empty l0 x68_3)).bind fun t287 => (if t287 = true then (laws_FnTrailerNames.l0 kj28 l0 x6_3 l0 (l0.length : Int) (wrap64 (x68_3 + 1))) else ((laws_normal.f (rdOf ByteArray.empty l0 x68_3)).bind fun t288 => (if x6_3.length < 4398046511104 then (laws_FnTrailerNames.l0 kj28 l0 (x6_3 ++ [(⟨t288, (⟨#[]⟩ : ByteArray)⟩ : S34)]) l0 (l0.length : Int) (wrap64 (x68_3 + 1))) else (none))))) = some r := by rw [if_neg (show ¬ (false = true) by decide)] at H; exact H
                clear H
                have H := H1
                clear H1
                replace H := Option.bind_eq_some_iff.mp H
                obtain ⟨t287, A350, H⟩ := H
                replace H : (if t287 = true then (laws_FnTrailerNames.l0 kj28 l0 x6_3 l0 (l0.length : Int) (wrap64 (x68_3 + 1))) else ((laws_normal.f (rdOf ByteArray.empty l0 x68_3)).bind fun t288 => (if x6_3.length < 4398046511104 then (laws_FnTrailerNames.l0 kj28 l0 (x6_3 ++ [(⟨t288, (⟨#[]⟩ : ByteArray)⟩ : S34)]) l0 (l0.length : Int) (wrap64 (x68_3 + 1))) else (none)))) = some r := H
                have A35 := Aside0.mk A350
                clear A350
                by_cases c36 : t287 = true
                ·subst c36
                 have H1 : (laws_FnTrailerNames.l0 kj28 l0 x6_3 l0 (l0.length : Int) (wrap64 (x68_3 + 1))) = some r := by rw [if_pos rfl] at H; exact H
                 clear H
                 have H := H1
                 clear H1
                 have H' := Aside0.mk H
                 clear H
                 go_wp2_with (first | ((with_reducible refine gate_callee (f := 11) rfl ?_); refine goesL_ (some 81) rfl rfl Try.func11 (by kernel_rfl) rfl #[.string (rdOf ByteArray.empty l0 x68_3)] rfl (by (try simp only [List.map_toArray, List.map_cons, List.map_nil]); first | done | rfl | (simp only [List.length_drop, List.length_take]; rfl)) ?_; (with_reducible refine (laws_forbidden.calls (rdOf ByteArray.empty l0 x68_3) true _ A35.out).mono ?_); rintro e w37 ⟨rfl, hb⟩; refine ⟨_, rfl, ?_⟩; have n0_ := Aside0.mk (Kd.R_below (by (with_reducible repeat (first | apply Kd.R_alloc | apply Kd.R_drewN | apply Kd.R_drew)); exact HO_6.out) hb); have n1_ := Aside0.mk (below_step (by repeat (first | (with_reducible first | exact HB.out | apply below_alloc | apply pw_below_drewN | apply below_drew1) | exact HB.out)) hb); clear HO_6; clear HB; have HO_6 := n0_; have HB := n1_; clear n0_ n1_; (try clear hb); (try clear hb2); (try clear hk); (try clear hi)))
                 go_roundg kj28
                 case measure => have := HJ4.out; have := HJ22.out; have := HK3.out; have := HJ28.out; omega
                 case rel => exact ⟨(x6_3), (wrap64 (x68_3 + 1)), (by first | rfl | (simp; done) | (rw [prx_ne]; first | done | rfl) | (simp [*]; done)), H', ⟨by have := HJ4.out; have := HJ22.out; have := HK3.out; have := HJ28.out; omega⟩, ⟨by (with_reducible repeat (first | apply Kd.R_alloc | apply Kd.R_drewN | apply Kd.R_drew)); exact HO_6.out⟩, ⟨by repeat (first | (with_reducible first | exact HB.out | apply below_alloc | apply pw_below_drewN | apply below_drew1) | exact HB.out)⟩⟩
                ·replace c36 := Bool.eq_false_iff.mpr c36
                 subst c36
                 have H1 : ((laws_normal.f (rdOf ByteArray.empty l0 x68_3)).bind fun t288 => (if x6_3.length < 4398046511104 then (laws_FnTrailerNames.l0 kj28 l0 (x6_3 ++ [(⟨t288, (⟨#[]⟩ : ByteArray)⟩ : S34)]) l0 (l0.length : Int) (wrap64 (x68_3 + 1))) else (none))) = some r := by rw [if_neg (show ¬ (false = true) by decide)] at H; exact H
                 clear H
                 have H := H1
                 clear H1
                 replace H := Option.bind_eq_some_iff.mp H
                 obtain ⟨t288, A380, H⟩ := H
                 replace H : (if x6_3.length < 4398046511104 then (laws_FnTrailerNames.l0 kj28 l0 (x6_3 ++ [(⟨t288, (⟨#[]⟩ : ByteArray)⟩ : S34)]) l0 (l0.length : Int) (wrap64 (x68_3 + 1))) else (none)) = some r := H
                 have A38 := Aside0.mk A380
                 clear A380
                 by_cases c39 : x6_3.length < 4398046511104
                 ·rw [if_pos c39] at H
                  have LMc39 := Aside0.mk c39
                  clear c39
                  obtain ⟨y289, hy289⟩ : ∃ y_ : List (S34), y_ = (x6_3 ++ [(⟨t288, (⟨#[]⟩ : ByteArray)⟩ : S34)]) := ⟨_, rfl⟩
                  replace H : (laws_FnTrailerNames.l0 kj28 l0 y289 l0 (l0.length : Int) (wrap64 (x68_3 + 1))) = some r := by first | (rw [hy289]; with_reducible exact H) | (have H2_ := (Option.bind_some _ _).symm.trans H; rw [hy289]; with_reducible exact H2_) | (have H2_ := (Option.bind_some _ _).symm.trans H; with_reducible exact H2_) | with_reducible exact H | (rw [hy289]; exact H) | exact H
                  have Ny289 := Aside0.mk hy289
                  clear hy289
                  have H' := Aside0.mk H
                  clear H
                  go_wp2_with (first | ((with_reducible refine gate_callee (f := 11) rfl ?_); refine goesL_ (some 81) rfl rfl Try.func11 (by kernel_rfl) rfl #[.string (rdOf ByteArray.empty l0 x68_3)] rfl (by (try simp only [List.map_toArray, List.map_cons, List.map_nil]); first | done | rfl | (simp only [List.length_drop, List.length_take]; rfl)) ?_; (with_reducible refine (laws_forbidden.calls (rdOf ByteArray.empty l0 x68_3) false _ A35.out).mono ?_); rintro e w40 ⟨rfl, hb⟩; refine ⟨_, rfl, ?_⟩; have n0_ := Aside0.mk (Kd.R_below (by (with_reducible repeat (first | apply Kd.R_alloc | apply Kd.R_drewN | apply Kd.R_drew)); exact HO_6.out) hb); have n1_ := Aside0.mk (below_step (by repeat (first | (with_reducible first | exact HB.out | apply below_alloc | apply pw_below_drewN | apply below_drew1) | exact HB.out)) hb); clear HO_6; clear HB; have HO_6 := n0_; have HB := n1_; clear n0_ n1_; (try clear hb); (try clear hb2); (try clear hk); (try clear hi)) | ((with_reducible refine gate_callee (f := 12) rfl ?_); refine goesL_ (some 85) rfl rfl Try.func12 (by kernel_rfl) rfl #[.string (rdOf ByteArray.empty l0 x68_3)] rfl (by (try simp only [List.map_toArray, List.map_cons, List.map_nil]); first | done | rfl | (simp only [List.length_drop, List.length_take]; rfl)) ?_; (with_reducible refine (laws_normal.calls (rdOf ByteArray.empty l0 x68_3) t288 _ A38.out).mono ?_); rintro e w41 ⟨rfl, hb⟩; refine ⟨_, rfl, ?_⟩; have n0_ := Aside0.mk (Kd.R_below (by (with_reducible repeat (first | apply Kd.R_alloc | apply Kd.R_drewN | apply Kd.R_drew)); exact HO_6.out) hb); have n1_ := Aside0.mk (below_step (by repeat (first | (with_reducible first | exact HB.out | apply below_alloc | apply pw_below_drewN | apply below_drew1) | exact HB.out)) hb); clear HO_6; clear HB; have HO_6 := n0_; have HB := n1_; clear n0_ n1_; (try clear hb); (try clear hb2); (try clear hk); (try clear hi)) | ((with_reducible refine gate_builtin (b := .append) (xs := #[.tmp 83, .tmp 87]) rfl ?_); (try (refine gate_guard (by rfl) ?_; dsimp only)); at_builtin; refine Kd.R_append k34 (w0 := w) w.heap.size rfl (.tmp 83) (.tmp 87) 30 34 (.agg #[(.string ⟨#[]⟩), (.string ⟨#[]⟩)]) 32 rfl Try.underlying30 info34 rfl (by decide) (by omega) u6 x6_3 (⟨t288, (⟨#[]⟩ : ByteArray)⟩ : S34) [.string t288, .string (⟨#[]⟩ : ByteArray)] (fun _ => True) (fun _ => False) rfl rfl ?aP (fun _ hk => hk.elim) ?aF ?aO ?aB ?aS ?aL ?_; (case aP => exact k34_mkM _ _ _ (⟨t288, (⟨#[]⟩ : ByteArray)⟩ : S34)); (case aB => exact (by repeat (first | (with_reducible first | exact HB.out | apply below_alloc | apply pw_below_drewN | apply below_drew1) | exact HB.out))); (case aF => exact (fun _ _ => trivial)); (case aO => exact (by (with_reducible repeat (first | apply Kd.R_alloc | apply Kd.R_drewN | apply Kd.R_drew)); exact HO_6.out)); (case aS => exact (below_size (by repeat (first | (with_reducible first | exact HB.out | apply below_alloc | apply pw_below_drewN | apply below_drew1) | exact HB.out)))); (case aL => have := LMc39.out; omega); intro v290 w42 ho hb hg hat; rw [← Ny289.out] at ho; have n0_ := Aside0.mk (hb); have n1_ := Aside0.mk (ho); clear HB; clear HO_6; have HB := n0_; have HO291 := n1_; clear n0_ n1_; clear ho hb hg hat))
                  go_roundg kj28
                  case measure => have := HJ4.out; have := HJ22.out; have := HK3.out; have := HJ28.out; omega
                  case rel => exact ⟨(y289), (wrap64 (x68_3 + 1)), (by first | rfl | (simp; done) | (rw [prx_ne]; first | done | rfl) | (simp [*]; done)), H', ⟨by have := HJ4.out; have := HJ22.out; have := HK3.out; have := HJ28.out; omega⟩, ⟨by (with_reducible repeat (first | apply Kd.R_alloc | apply Kd.R_drewN | apply Kd.R_drew)); exact HO291.out⟩, ⟨by repeat (first | (with_reducible first | exact HB.out | apply below_alloc | apply pw_below_drewN | apply below_drew1) | exact HB.out)⟩⟩
                 ·rw [if_neg c39] at H
                  exact absurd H (by simp)
            ·rw [if_neg c28] at H
             exact absurd H (by simp)
           ·rw [if_neg c27] at H
            exact absurd H (by simp)
          ·rw [if_neg c26] at H
           have c26b0 : decide (x68_3 < (l0.length : Int)) = false := decide_eq_false c26
           clear c26
           replace H := Option.bind_eq_some_iff.mp H
           obtain ⟨t292, A430, H⟩ := H
           replace H : ((impl_TrailerScript.f (([(⟨4, (⟨#[]⟩ : ByteArray), t292, 0, 0⟩ : S28), (⟨7, (⟨#[]⟩ : ByteArray), (⟨#[]⟩ : ByteArray), 0, 0⟩ : S28), (⟨5, (⟨#[]⟩ : ByteArray), (⟨#[]⟩ : ByteArray), 0, 0⟩ : S28), (⟨8, (⟨#[]⟩ : ByteArray), (⟨#[]⟩ : ByteArray), 0, 0⟩ : S28)] : List (S28)))).bind fun bt296 => (if bt296.2.2 = true then (if (bt296.1.length : Int) = 4 then (if 0 < (bt296.1.length : Int) then (if 0 ≤ (wrap64 ((l0.length : Int) - 1)) then (if (wrap64 ((l0.length : Int) - 1)) < (l0.length : Int) then ((laws_forbidden.f (rdOf ByteArray.empty l0 (wrap64 ((l0.length : Int) - 1)))).bind fun t303 => (if (((rd_T32 bt296.1 0).f1) == t303) = true then (laws_FnTrailerNames.j4 k3 x6_3 bt296.1 true) else (if 1 < (bt296.1.length : Int) then ((laws_samePairs.f k3 ((rd_T32 bt296.1 1).f4) x6_3).bind fun t305 => (if t305 = true then (if 3 < (bt296.1.length : Int) then (laws_FnTrailerNames.j4 k3 x6_3 bt296.1 (((rd_T32 bt296.1 3).f1) != ((x6_3.length : Int) == 0))) else (none)) else (laws_FnTrailerNames.j4 k3 x6_3 bt296.1 true))) else (none)))) else (none)) else (none)) else (none)) else (laws_FnTrailerNames.j4 k3 x6_3 bt296.1 true)) else (laws_FnTrailerNames.j4 k3 x6_3 bt296.1 true))) = some r := H
           have A43 := Aside0.mk A430
           clear A430
           obtain ⟨y293, hy293⟩ : ∃ y_ : List (S28), y_ = (([(⟨4, (⟨#[]⟩ : ByteArray), t292, 0, 0⟩ : S28), (⟨7, (⟨#[]⟩ : ByteArray), (⟨#[]⟩ : ByteArray), 0, 0⟩ : S28), (⟨5, (⟨#[]⟩ : ByteArray), (⟨#[]⟩ : ByteArray), 0, 0⟩ : S28), (⟨8, (⟨#[]⟩ : ByteArray), (⟨#[]⟩ : ByteArray), 0, 0⟩ : S28)] : List (S28))) := ⟨_, rfl⟩
           replace H : ((impl_TrailerScript.f y293).bind fun bt296 => (if bt296.2.2 = true then (if (bt296.1.length : Int) = 4 then (if 0 < (bt296.1.length : Int) then (if 0 ≤ (wrap64 ((l0.length : Int) - 1)) then (if (wrap64 ((l0.length : Int) - 1)) < (l0.length : Int) then ((laws_forbidden.f (rdOf ByteArray.empty l0 (wrap64 ((l0.length : Int) - 1)))).bind fun t303 => (if (((rd_T32 bt296.1 0).f1) == t303) = true then (laws_FnTrailerNames.j4 k3 x6_3 bt296.1 true) else (if 1 < (bt296.1.length : Int) then ((laws_samePairs.f k3 ((rd_T32 bt296.1 1).f4) x6_3).bind fun t305 => (if t305 = true then (if 3 < (bt296.1.length : Int) then (laws_FnTrailerNames.j4 k3 x6_3 bt296.1 (((rd_T32 bt296.1 3).f1) != ((x6_3.length : Int) == 0))) else (none)) else (laws_FnTrailerNames.j4 k3 x6_3 bt296.1 true))) else (none)))) else (none)) else (none)) else (none)) else (laws_FnTrailerNames.j4 k3 x6_3 bt296.1 true)) else (laws_FnTrailerNames.j4 k3 x6_3 bt296.1 true))) = some r := by first | (rw [hy293]; with_reducible exact H) | (have H2_ := (Option.bind_some _ _).symm.trans H; rw [hy293]; with_reducible exact H2_) | (have H2_ := (Option.bind_some _ _).symm.trans H; with_reducible exact H2_) | with_reducible exact H | (rw [hy293]; exact H) | exact H
           have Ny293 := Aside0.mk hy293
           clear hy293
           replace H := Option.bind_eq_some_iff.mp H
           obtain ⟨⟨t296, t297, t298⟩, A440, H⟩ := H
           replace H : (if t298 = true then (if (t296.length : Int) = 4 then (if 0 < (t296.length : Int) then (if 0 ≤ (wrap64 ((l0.length : Int) - 1)) then (if (wrap64 ((l0.length : Int) - 1)) < (l0.length : Int) then ((laws_forbidden.f (rdOf ByteArray.empty l0 (wrap64 ((l0.length : Int) - 1)))).bind fun t303 => (if (((rd_T32 t296 0).f1) == t303) = true then (laws_FnTrailerNames.j4 k3 x6_3 t296 true) else (if 1 < (t296.length : Int) then ((laws_samePairs.f k3 ((rd_T32 t296 1).f4) x6_3).bind fun t305 => (if t305 = true then (if 3 < (t296.length : Int) then (laws_FnTrailerNames.j4 k3 x6_3 t296 (((rd_T32 t296 3).f1) != ((x6_3.length : Int) == 0))) else (none)) else (laws_FnTrailerNames.j4 k3 x6_3 t296 true))) else (none)))) else (none)) else (none)) else (none)) else (laws_FnTrailerNames.j4 k3 x6_3 t296 true)) else (laws_FnTrailerNames.j4 k3 x6_3 t296 true)) = some r := H
           have A44 := Aside0.mk A440
           clear A440
           have HC45 := Aside0.mk H
           clear H
           go_upto_region 18 with (first | ((with_reducible refine gate_callee (f := 13) rfl ?_); refine goesL_ (some 92) rfl rfl Try.func13 (by kernel_rfl) rfl #[.slice A0 l0.length c0, .string (⟨#[44, 32]⟩ : ByteArray)] rfl (by (try simp only [List.map_toArray, List.map_cons, List.map_nil]); first | done | rfl | (simp only [List.length_drop, List.length_take]; rfl)) ?_; (with_reducible refine (laws_joined.calls k3 _ _ l0 (⟨#[44, 32]⟩ : ByteArray) t292 _ ?side1 ?side2 A43.out).mono ?_); (case side1 => repeat (first | exact (Kd.C_below HR0.out HB.out) | (with_reducible refine Kd.C_alloc ?_ _) | (with_reducible refine Kd.C_drewN ?_ _) | (with_reducible refine Kd.C_drew ?_))); (case side2 => exact HC0.out); rintro e w' ⟨rfl, ⟨nd, rfl⟩⟩; refine ⟨_, rfl, ?_⟩) | ((with_reducible refine gate_dst (N := 97) rfl ?_); (try (refine gate_guard (by rfl) ?_; dsimp only)); refine Kd.R_lit k28 _ 28 ?hg (N := 97) ?hd (xs := ([(⟨4, (⟨#[]⟩ : ByteArray), t292, 0, 0⟩ : S28), (⟨7, (⟨#[]⟩ : ByteArray), (⟨#[]⟩ : ByteArray), 0, 0⟩ : S28), (⟨5, (⟨#[]⟩ : ByteArray), (⟨#[]⟩ : ByteArray), 0, 0⟩ : S28), (⟨8, (⟨#[]⟩ : ByteArray), (⟨#[]⟩ : ByteArray), 0, 0⟩ : S28)] : List (S28))) (inner := [.int .i64 4, .string (⟨#[]⟩ : ByteArray), .string t292, .int .i64 0, .int .i64 0, .int .i64 7, .string (⟨#[]⟩ : ByteArray), .string (⟨#[]⟩ : ByteArray), .int .i64 0, .int .i64 0, .int .i64 5, .string (⟨#[]⟩ : ByteArray), .string (⟨#[]⟩ : ByteArray), .int .i64 0, .int .i64 0, .int .i64 8, .string (⟨#[]⟩ : ByteArray), .string (⟨#[]⟩ : ByteArray), .int .i64 0, .int .i64 0]) (ok := fun _ => True) (okp := fun _ => True) ?hr ?hp (fun _ hk => hk) trivial (Below.refl _ _) (Nat.le_refl _) (by simp) ?_; (case hd => rfl); (case hg => rfl); (case hr => first | (go_simp; done) | (go_simp; rfl)); (case hp => exact (Reps.c5 (show Kd.M k28 _ _ _ (⟨4, (⟨#[]⟩ : ByteArray), t292, 0, 0⟩ : S28) [.int .i64 4, .string (⟨#[]⟩ : ByteArray), .string t292, .int .i64 0, .int .i64 0] from (k28_mkM _ _ _ (⟨4, (⟨#[]⟩ : ByteArray), t292, 0, 0⟩ : S28) )) (Reps.c5 (show Kd.M k28 _ _ _ (⟨7, (⟨#[]⟩ : ByteArray), (⟨#[]⟩ : ByteArray), 0, 0⟩ : S28) [.int .i64 7, .string (⟨#[]⟩ : ByteArray), .string (⟨#[]⟩ : ByteArray), .int .i64 0, .int .i64 0] from (k28_mkM _ _ _ (⟨7, (⟨#[]⟩ : ByteArray), (⟨#[]⟩ : ByteArray), 0, 0⟩ : S28) )) (Reps.c5 (show Kd.M k28 _ _ _ (⟨5, (⟨#[]⟩ : ByteArray), (⟨#[]⟩ : ByteArray), 0, 0⟩ : S28) [.int .i64 5, .string (⟨#[]⟩ : ByteArray), .string (⟨#[]⟩ : ByteArray), .int .i64 0, .int .i64 0] from (k28_mkM _ _ _ (⟨5, (⟨#[]⟩ : ByteArray), (⟨#[]⟩ : ByteArray), 0, 0⟩ : S28) )) (Reps.c5 (show Kd.M k28 _ _ _ (⟨8, (⟨#[]⟩ : ByteArray), (⟨#[]⟩ : ByteArray), 0, 0⟩ : S28) [.int .i64 8, .string (⟨#[]⟩ : ByteArray), .string (⟨#[]⟩ : ByteArray), .int .i64 0, .int .i64 0] from (k28_mkM _ _ _ (⟨8, (⟨#[]⟩ : ByteArray), (⟨#[]⟩ : ByteArray), 0, 0⟩ : S28) )) (Reps.none _ _)))))); intro v294 w46 ho47 hb hg_ hnew_; clear hg_ hnew_; (first | rw [← Ny293.out] at ho47 | (simp only [Int.reduceToNat] at ho47; rw [← Ny293.out] at ho47)); have n0_ := Aside0.mk (Kd.R_below (by (with_reducible repeat (first | apply Kd.R_alloc | apply Kd.R_drewN | apply Kd.R_drew)); exact HO_6.out) hb); have n1_ := Aside0.mk (Kd.R_lower ho47 (below_size (by repeat (first | (with_reducible first | exact HB.out | apply below_alloc | apply pw_below_drewN | apply below_drew1) | exact HB.out)))); have n2_ := Aside0.mk (below_step (by repeat (first | (with_reducible first | exact HB.out | apply below_alloc | apply pw_below_drewN | apply below_drew1) | exact HB.out)) hb); clear HO_6; clear HB; have HO_6 := n0_; have HO295 := n1_; have HB := n2_; clear n0_ n1_ n2_; clear hb ho47; obtain ⟨Ao48, co48, eo48⟩ := Kd.R_slice HO295.out; subst eo48) | ((with_reducible refine gate_callee (f := 9) rfl ?_); refine goesL_ (some 98) rfl rfl Try.func9 (by kernel_rfl) rfl #[.slice Ao48 y293.length co48] rfl (by (try simp only [List.map_toArray, List.map_cons, List.map_nil]); first | done | rfl | (simp only [List.length_drop, List.length_take]; rfl)) ?_; (with_reducible refine (impl_TrailerScript.calls _ _ y293 t296 t297 t298 _ ?side1 ?side2 A44.out).mono ?_); (case side1 => repeat (first | exact (Kd.R_reads' HO295.out).2.2 | (with_reducible refine Kd.C_alloc ?_ _) | (with_reducible refine Kd.C_drewN ?_ _) | (with_reducible refine Kd.C_drew ?_))); (case side2 => exact (Kd.R_reads' HO295.out).2.1); rintro e w49 ⟨v299, rfl, ho0, hb⟩; refine ⟨_, rfl, ?_⟩; have n0_ := Aside0.mk (Kd.R_below (by (with_reducible repeat (first | apply Kd.R_alloc | apply Kd.R_drewN | apply Kd.R_drew)); exact HO_6.out) hb); have n1_ := Aside0.mk (Kd.R_below (by (with_reducible repeat (first | apply Kd.R_alloc | apply Kd.R_drewN | apply Kd.R_drew)); exact HO295.out) hb); have n2_ := Aside0.mk (Kd.S_lower (Kd.S_new' ho0 (Kd.R_lt (by (with_reducible repeat (first | apply Kd.R_alloc | apply Kd.R_drewN | apply Kd.R_drew)); exact HO_6.out))) (below_size (by repeat (first | (with_reducible first | exact HB.out | apply below_alloc | apply pw_below_drewN | apply below_drew1) | exact HB.out)))); have n3_ := Aside0.mk (below_step (by repeat (first | (with_reducible first | exact HB.out | apply below_alloc | apply pw_below_drewN | apply below_drew1) | exact HB.out)) hb); clear HO_6; clear HO295; clear HB; have HO_6 := n0_; have HO295 := n1_; have HO300 := n2_; have HB := n3_; clear n0_ n1_ n2_ n3_; (try clear hb); (try clear hb2); (try clear hk); (try clear hi); (try clear ho0)))
           (try simp only [Act.put, List.setIfInBounds_toArray, List.set_cons_zero, List.set_cons_succ])
           go_cut [141] (fun v141 wc => ∃ (kq : Nat) (x141_44 : Bool), v141 = .bool x141_44 ∧ Aside0 (laws_FnTrailerNames.j4 kq x6_3 t296 x141_44 = some r) ∧ Aside0 (kq ≤ k3) ∧ Aside0 (Kd.R k34 34 wc w.heap.size (fun _ => True) u6 x6_3) ∧ Aside0 (Kd.S k32 32 wc w.heap.size (fun k_ => some k_ ≠ (u6 : Value).ownBlock) v299 t296) ∧ Aside0 (Below w.heap.size w wc))
           case first =>
            have H := HC45.out
            clear HC45
            by_cases c50 : t298 = true
            ·subst c50
             have H1 : (if (t296.length : Int) = 4 then (if 0 < (t296.length : Int) then (if 0 ≤ (wrap64 ((l0.length : Int) - 1)) then (if (wrap64 ((l0.length : Int) - 1)) < (l0.length : Int) then ((laws_forbidden.f (rdOf ByteArray.empty l0 (wrap64 ((l0.length : Int) - 1)))).bind fun t303 => (if (((rd_T32 t296 0).f1) == t303) = true then (laws_FnTrailerNames.j4 k3 x6_3 t296 true) else (if 1 < (t296.length : Int) then ((laws_samePairs.f k3 ((rd_T32 t296 1).f4) x6_3).bind fun t305 => (if t305 = true then (if 3 < (t296.length : Int) then (laws_FnTrailerNames.j4 k3 x6_3 t296 (((rd_T32 t296 3).f1) != ((x6_3.length : Int) == 0))) else (none)) else (laws_FnTrailerNames.j4 k3 x6_3 t296 true))) else (none)))) else (none)) else (none)) else (none)) else (laws_FnTrailerNames.j4 k3 x6_3 t296 true)) = some r := by rw [if_pos rfl] at H; exact H
             clear H
             have H := H1
             clear H1
             by_cases c51 : (t296.length : Int) = 4
             ·rw [if_pos c51] at H
              have c51b0 : ((t296.length : Int) == 4) = true := beq_iff_eq.mpr c51
              have c51b1 : ((t296.length : Int) != 4) = false := bne_eq_false_iff_eq.mpr c51
              clear c51
              (first | rw [c51b0] | (simp only [i64_w, i32_w]; rw [c51b0]) | skip)
              by_cases c52 : 0 < (t296.length : Int)
              ·rw [if_pos c52] at H
               have c52b0 : decide (0 < (t296.length : Int)) = true := decide_eq_true c52
               have c52b1 : decide (0 < t296.length) = true := decide_eq_true (by omega)
               clear c52
               obtain ⟨ji53, hji53⟩ : ∃ j_ : Int, (wrap64 ((l0.length : Int) - 1)) = j_ := ⟨_, rfl⟩
               replace H : (if 0 ≤ (ji53) then (if (ji53) < (l0.length : Int) then ((laws_forbidden.f (rdOf ByteArray.empty l0 (ji53))).bind fun t303 => (if (((rd_T32 t296 0).f1) == t303) = true then (laws_FnTrailerNames.j4 k3 x6_3 t296 true) else (if 1 < (t296.length : Int) then ((laws_samePairs.f k3 ((rd_T32 t296 1).f4) x6_3).bind fun t305 => (if t305 = true then (if 3 < (t296.length : Int) then (laws_FnTrailerNames.j4 k3 x6_3 t296 (((rd_T32 t296 3).f1) != ((x6_3.length : Int) == 0))) else (none)) else (laws_FnTrailerNames.j4 k3 x6_3 t296 true))) else (none)))) else (none)) else (none)) = some r := by first | (rw [hji53] at H; exact H) | (simp only [hji53] at H ⊢; exact H)
               have hji53w : (IntKind.i64.wrap ((l0.length : Int) - 1)) = ji53 := (i64_w _).trans hji53
               by_cases c54 : 0 ≤ (ji53)
               ·rw [if_pos c54] at H
                have c54b0 : decide (0 ≤ (ji53)) = true := decide_eq_true c54
                clear c54
                by_cases c55 : (ji53) < (l0.length : Int)
                ·rw [if_pos c55] at H
                 have c55b0 : decide ((ji53) < (l0.length : Int)) = true := decide_eq_true c55
                 clear c55
                 replace H := Option.bind_eq_some_iff.mp H
                 obtain ⟨t303, A560, H⟩ := H
                 replace H : (if (((rd_T32 t296 0).f1) == t303) = true then (laws_FnTrailerNames.j4 k3 x6_3 t296 true) else (if 1 < (t296.length : Int) then ((laws_samePairs.f k3 ((rd_T32 t296 1).f4) x6_3).bind fun t305 => (if t305 = true then (if 3 < (t296.length : Int) then (laws_FnTrailerNames.j4 k3 x6_3 t296 (((rd_T32 t296 3).f1) != ((x6_3.length : Int) == 0))) else (none)) else (laws_FnTrailerNames.j4 k3 x6_3 t296 true))) else (none))) = some r := H
                 have A56 := Aside0.mk A560
                 clear A560
                 by_cases c57 : (((rd_T32 t296 0).f1) == t303) = true
                 ·rw [if_pos c57] at H
                  have c57b0 : (((rd_T32 t296 0).f1) == t303) = true := c57
                  (try (have c57b1 : decide (((rd_T32 t296 0).f1) = t303) = true := by simpa using c57))
                  (try (have c57b2 : (((rd_T32 t296 0).f1) == t303) = true := by simpa using c57))
                  clear c57
                  have H' := Aside0.mk H
                  clear H
                  try go_wp2
                  have n0_ := Aside0.mk (Kd.R_drew HO_6.out)
                  have n1_ := Aside0.mk (Kd.R_drew HO295.out)
                  have n2_ := Aside0.mk (Kd.S_drew HO300.out)
                  have n3_ := Aside0.mk (below_drew1 HB.out)
                  clear HO_6
                  clear HO295
                  clear HO300
                  clear HB
                  have HO_6 := n0_
                  have HO295 := n1_
                  have HO300 := n2_
                  have HB := n3_
                  clear n0_ n1_ n2_ n3_
                  obtain ⟨Ao59, co59, eo59⟩ := Kd.S_slice HO300.out
                  (first | subst eo59 | (injection eo59 with f1_ f2_ f3_; have f4_ := f1_.symm; have f5_ := f3_.symm; clear f1_ f2_ f3_; subst f4_; subst f5_))
                  have p301 : 0 ≤ (0 : Int) := (by omega)
                  have q301 : 0 < (t296.length : Int) := of_decide_eq_true (by first | (with_reducible assumption) | assumption)
                  obtain ⟨ad301, A301_3, c301_3, A301_4, c301_4, e301, hx301_0, hx301_1, hx301_2, hx301_3, hx301_4, hl301_3, hi301_3, hl301_4, hi301_4⟩ := at_T32 (Kd.S_reads' HO300.out).2.2 0 p301 q301
                  cases e301
                  obtain ⟨ce301, hce301, hMe301, hcc301⟩ := Kd.S_get HO300.out z32 0 p301 (by first | exact q301 | exact of_decide_eq_true (by first | (with_reducible assumption) | assumption) | (have e_ := (Kd.S_reads' HO300.out).1; omega))
                  obtain ⟨ve301_3, ve301_4, rfl, ge301_3, ge301_4⟩ := k32_openM hMe301
                  have hv301_3 := hcc301 3 _ rfl
                  rw [add_field _ _ 3 (by omega)] at hv301_3
                  replace hv301_3 := Option.some.inj (hv301_3.symm.trans hx301_3)
                  rw [hv301_3] at ge301_3
                  have HL301_3 := Aside0.mk (show Kd.R Kd.string 9 _ _ _ _ ((rd_T32 t296 0).f3) from ge301_3)
                  clear hv301_3 ge301_3
                  have hv301_4 := hcc301 4 _ rfl
                  rw [add_field _ _ 4 (by omega)] at hv301_4
                  replace hv301_4 := Option.some.inj (hv301_4.symm.trans hx301_4)
                  rw [hv301_4] at ge301_4
                  have HL301_4 := Aside0.mk (show Kd.R k34 34 _ _ _ _ ((rd_T32 t296 0).f4) from ge301_4)
                  clear hv301_4 ge301_4
                  clear hcc301 hce301
                  have qi301 : (0 < t296.length) = True := eq_true (by omega)
                  (try rw [show ((0 : Int)).toNat = 0 from rfl] at hx301_0)
                  (try rw [show 0 * 5 = 0 from rfl] at hx301_0)
                  (try rw [Addr.add_zero'] at hx301_0)
                  (try rw [show ((0 : Int)).toNat = 0 from rfl] at hx301_1)
                  (try rw [show 0 * 5 = 0 from rfl] at hx301_1)
                  (try rw [Addr.add_zero'] at hx301_1)
                  (try rw [show ((0 : Int)).toNat = 0 from rfl] at hx301_2)
                  (try rw [show 0 * 5 = 0 from rfl] at hx301_2)
                  (try rw [Addr.add_zero'] at hx301_2)
                  (try rw [show ((0 : Int)).toNat = 0 from rfl] at hx301_3)
                  (try rw [show 0 * 5 = 0 from rfl] at hx301_3)
                  (try rw [Addr.add_zero'] at hx301_3)
                  (try rw [show ((0 : Int)).toNat = 0 from rfl] at hx301_4)
                  (try rw [show 0 * 5 = 0 from rfl] at hx301_4)
                  (try rw [Addr.add_zero'] at hx301_4)
                  have HR301_3 := Aside0.mk hi301_3
                  have HC301_3 := Aside0.mk hl301_3
                  clear hi301_3 hl301_3
                  have HR301_4 := Aside0.mk hi301_4
                  have HC301_4 := Aside0.mk hl301_4
                  clear hi301_4 hl301_4
                  replace p301 := eq_true p301
                  replace q301 := eq_true q301
                  have p302 : 0 ≤ ((ji53) : Int) := of_decide_eq_true (by first | (with_reducible assumption) | assumption)
                  have q302 : (ji53) < (l0.length : Int) := of_decide_eq_true (by first | (with_reducible assumption) | assumption)
                  obtain ⟨ad302, e302, hx302_0⟩ := Kd.at_string HR0.out (ji53) p302 q302
                  have hw302_0 := hx302_0
                  cases e302
                  replace hx302_0 := (HB.out.cell (World.block_lt_of_cell? w _ hx302_0)).trans hx302_0
                  replace p302 := eq_true p302
                  replace q302 := eq_true q302
                  refine start_ (n := 40) (S := fun w' => w'.cell? ad301 = some (.string ((rd_T32 t296 0).f0)) ∧ w'.cell? ⟨ad301.block, ad301.off + 1, none⟩ = some (.bool ((rd_T32 t296 0).f1)) ∧ w'.cell? ⟨ad301.block, ad301.off + 2, none⟩ = some (.int .i64 ((rd_T32 t296 0).f2)) ∧ w'.cell? ⟨ad301.block, ad301.off + 3, none⟩ = some (.slice A301_3 ((rd_T32 t296 0).f3).length c301_3) ∧ w'.cell? ⟨ad301.block, ad301.off + 4, none⟩ = some (.slice A301_4 ((rd_T32 t296 0).f4).length c301_4) ∧ w'.cell? (ad302.add ((ji53)).toNat) = some (.string (rdOf ByteArray.empty l0 (ji53)))) (ds := []) #[false,false,false,false,false,false,false,false,false,false,false,false,false,false,false,false,false,false,false,false,false,false,false,false,false,false,false,false,false,false,false,false,false,false,false,false,false,false,false,false] (by kernel_rfl) rfl rfl ⟨hx301_0, hx301_1, hx301_2, hx301_3, hx301_4, ((HB.out.cell (World.block_lt_of_cell? w _ hw302_0)).trans hw302_0)⟩ (fun hHeld => ?_); refine with_tabW laws_FnTrailerNames.tab18 laws_FnTrailerNames.bits18 (fun HT_ HW_ => ?_)
                  generalize w49.drew = w58 at HO_6 HO295 HO300 HB HL301_3 HL301_4 HR301_3 HR301_4 hx301_0 hx301_1 hx301_2 hx301_3 hx301_4 hx302_0 hHeld ⊢
                  refine pure_ (i := 0) (N := some 102) (v := ?_) (a' := ?_) #[true,false,false,false,false,false,false,false,false,false,false,false,false,false,false,false,false,false,false,false,false,false,false,false,false,false,false,false,false,false,false,false,false,false,false,false,false,false,false,false] rfl rfl (any_of HT_.out (by kernel_rfl)) (fun _ _ _ h => h) (Or.inl ⟨by rfl, ?_⟩) ?_ ?_
                  rotate_left
                  ·intro w'
                   go_simp
                   with_reducible rfl
                  rotate_left
                  ·simp only [Act.put, List.setIfInBounds_toArray, List.set_cons_zero, List.set_cons_succ, i64_w, i32_w]
                   rfl
                  refine pure_ (i := 1) (N := some 103) (v := ?_) (a' := ?_) #[true,true,false,false,false,false,false,false,false,false,false,false,false,false,false,false,false,false,false,false,false,false,false,false,false,false,false,false,false,false,false,false,false,false,false,false,false,false,false,false] rfl rfl (any_of HT_.out (by kernel_rfl)) (fun _ _ _ h => h) (Or.inl ⟨by rfl, ?_⟩) ?_ ?_
                  rotate_left
                  ·intro w'
                   go_simp
                   with_reducible rfl
                  rotate_left
                  ·simp only [Act.put, List.setIfInBounds_toArray, List.set_cons_zero, List.set_cons_succ, i64_w, i32_w]
                   rfl
                  refine pure_ (i := 2) (N := some 104) (v := ?_) (a' := ?_) #[true,true,true,false,false,false,false,false,false,false,false,false,false,false,false,false,false,false,false,false,false,false,false,false,false,false,false,false,false,false,false,false,false,false,false,false,false,false,false,false] rfl rfl (any_of HT_.out (by kernel_rfl)) (fun _ _ _ h => h) (Or.inl ⟨by rfl, ?_⟩) ?_ ?_
                  rotate_left
                  ·intro w'
                   go_simp
                   with_reducible rfl
                  rotate_left
                  ·simp only [Act.put, List.setIfInBounds_toArray, List.set_cons_zero, List.set_cons_succ, i64_w, i32_w]
                   rfl
                  refine pure_ (i := 3) (N := some 105) (v := ?_) (a' := ?_) #[true,true,true,true,false,false,false,false,false,false,false,false,false,false,false,false,false,false,false,false,false,false,false,false,false,false,false,false,false,false,false,false,false,false,false,false,false,false,false,false] rfl rfl (any_of HT_.out (by kernel_rfl)) (fun _ _ _ h => h) (Or.inl ⟨by rfl, ?_⟩) ?_ ?_
                  rotate_left
                  ·intro w'
                   go_simp
                   with_reducible rfl
                  rotate_left
                  ·simp only [Act.put, List.setIfInBounds_toArray, List.set_cons_zero, List.set_cons_succ, i64_w, i32_w]
                   rfl
                  refine pure_ (i := 4) (N := some 106) (v := ?_) (a' := ?_) #[true,true,true,true,true,false,false,false,false,false,false,false,false,false,false,false,false,false,false,false,false,false,false,false,false,false,false,false,false,false,false,false,false,false,false,false,false,false,false,false] rfl rfl (any_of HT_.out (by kernel_rfl)) (fun _ _ _ h => h) (Or.inl ⟨by rfl, ?_⟩) ?_ ?_
                  rotate_left
                  ·intro w'
                   go_simp
                   with_reducible rfl
                  rotate_left
                  ·simp only [Act.put, List.setIfInBounds_toArray, List.set_cons_zero, List.set_cons_succ, i64_w, i32_w]
                   rfl
                  refine pure_ (i := 5) (N := some 107) (v := ?_) (a' := ?_) #[true,true,true,true,true,true,false,false,false,false,false,false,false,false,false,false,false,false,false,false,false,false,false,false,false,false,false,false,false,false,false,false,false,false,false,false,false,false,false,false] rfl rfl (any_of HT_.out (by kernel_rfl)) (fun _ _ _ h => h) (Or.inl ⟨by rfl, ?_⟩) ?_ ?_
                  rotate_left
                  ·intro w'
                   go_simp
                   with_reducible rfl
                  rotate_left
                  ·simp only [Act.put, List.setIfInBounds_toArray, List.set_cons_zero, List.set_cons_succ, i64_w, i32_w]
                   rfl
                  refine pure_ (i := 6) (N := some 108) (v := ?_) (a' := ?_) #[true,true,true,true,true,true,true,false,false,false,false,false,false,false,false,false,false,false,false,false,false,false,false,false,false,false,false,false,false,false,false,false,false,false,false,false,false,false,false,false] rfl rfl (any_of HT_.out (by kernel_rfl)) (fun _ _ _ h => h) (Or.inl ⟨by rfl, ?_⟩) ?_ ?_
                  rotate_left
                  ·intro w'
                   go_simp
                   with_reducible rfl
                  rotate_left
                  ·simp only [Act.put, List.setIfInBounds_toArray, List.set_cons_zero, List.set_cons_succ, i64_w, i32_w]
                   rfl
                  refine pure_ (i := 7) (N := some 109) (v := ?_) (a' := ?_) #[true,true,true,true,true,true,true,true,false,false,false,false,false,false,false,false,false,false,false,false,false,false,false,false,false,false,false,false,false,false,false,false,false,false,false,false,false,false,false,false] rfl rfl (any_of HT_.out (by kernel_rfl)) (fun _ _ _ h => h) (Or.inl ⟨by rfl, ?_⟩) ?_ ?_
                  rotate_left
                  ·intro w'
                   go_simp
                   with_reducible rfl
                  rotate_left
                  ·simp only [Act.put, List.setIfInBounds_toArray, List.set_cons_zero, List.set_cons_succ, i64_w, i32_w]
                   rfl
                  refine pure_ (i := 8) (N := some 110) (v := ?_) (a' := ?_) #[true,true,true,true,true,true,true,true,true,false,false,false,false,false,false,false,false,false,false,false,false,false,false,false,false,false,false,false,false,false,false,false,false,false,false,false,false,false,false,false] rfl rfl (any_of HT_.out (by kernel_rfl)) (fun _ _ _ h => h) (Or.inl ⟨by rfl, ?_⟩) ?_ ?_
                  rotate_left
                  ·intro w'
                   go_simp
                   with_reducible rfl
                  rotate_left
                  ·simp only [Act.put, List.setIfInBounds_toArray, List.set_cons_zero, List.set_cons_succ, i64_w, i32_w]
                   rfl
                  refine pure_ (i := 9) (N := some 111) (v := ?_) (a' := ?_) #[true,true,true,true,true,true,true,true,true,true,false,false,false,false,false,false,false,false,false,false,false,false,false,false,false,false,false,false,false,false,false,false,false,false,false,false,false,false,false,false] rfl rfl (any_of HT_.out (by kernel_rfl)) (fun _ _ _ h => h) (Or.inl ⟨by rfl, ?_⟩) ?_ ?_
                  rotate_left
                  ·intro w'
                   go_simp
                   with_reducible rfl
                  rotate_left
                  ·simp only [Act.put, List.setIfInBounds_toArray, List.set_cons_zero, List.set_cons_succ, i64_w, i32_w]
                   rfl
                  refine pure_ (i := 10) (N := some 112) (v := ?_) (a' := ?_) #[true,true,true,true,true,true,true,true,true,true,true,false,false,false,false,false,false,false,false,false,false,false,false,false,false,false,false,false,false,false,false,false,false,false,false,false,false,false,false,false] rfl rfl (any_of HT_.out (by kernel_rfl)) (fun _ _ _ h => h) (Or.inl ⟨by rfl, ?_⟩) ?_ ?_
                  rotate_left
                  ·intro w'
                   go_simp
                   with_reducible rfl
                  rotate_left
                  ·simp only [Act.put, List.setIfInBounds_toArray, List.set_cons_zero, List.set_cons_succ, i64_w, i32_w]
                   rfl
                  refine pure_ (i := 12) (N := some 114) (v := ?_) (a' := ?_) #[true,true,true,true,true,true,true,true,true,true,true,false,true,false,false,false,false,false,false,false,false,false,false,false,false,false,false,false,false,false,false,false,false,false,false,false,false,false,false,false] rfl rfl (any_of HT_.out (by kernel_rfl)) (fun _ _ _ h => h) (Or.inl ⟨by rfl, ?_⟩) ?_ ?_
                  rotate_left
                  ·intro w'
                   go_simp
                   with_reducible rfl
                  rotate_left
                  ·simp only [Act.put, List.setIfInBounds_toArray, List.set_cons_zero, List.set_cons_succ, i64_w, i32_w]
                   rfl
                  refine pure_ (i := 13) (N := some 115) (v := ?_) (a' := ?_) #[true,true,true,true,true,true,true,true,true,true,true,false,true,true,false,false,false,false,false,false,false,false,false,false,false,false,false,false,false,false,false,false,false,false,false,false,false,false,false,false] rfl rfl (any_of HT_.out (by kernel_rfl)) (fun _ _ _ h => h) (Or.inl ⟨by rfl, ?_⟩) ?_ ?_
                  rotate_left
                  ·intro w'
                   go_simp
                   with_reducible rfl
                  rotate_left
                  ·simp only [Act.put, List.setIfInBounds_toArray, List.set_cons_zero, List.set_cons_succ, i64_w, i32_w]
                   rfl
                  refine pure_ (i := 14) (N := some 116) (v := ?_) (a' := ?_) #[true,true,true,true,true,true,true,true,true,true,true,false,true,true,true,false,false,false,false,false,false,false,false,false,false,false,false,false,false,false,false,false,false,false,false,false,false,false,false,false] rfl rfl (any_of HT_.out (by kernel_rfl)) (fun _ _ _ h => h) (Or.inl ⟨by rfl, ?_⟩) ?_ ?_
                  rotate_left
                  ·intro w'
                   go_simp
                   with_reducible rfl
                  rotate_left
                  ·simp only [Act.put, List.setIfInBounds_toArray, List.set_cons_zero, List.set_cons_succ, i64_w, i32_w]
                   rfl
                  refine pure_ (i := 15) (N := some 117) (v := ?_) (a' := ?_) #[true,true,true,true,true,true,true,true,true,true,true,false,true,true,true,true,false,false,false,false,false,false,false,false,false,false,false,false,false,false,false,false,false,false,false,false,false,false,false,false] rfl rfl (any_of HT_.out (by kernel_rfl)) (fun _ _ _ h => h) (Or.inl ⟨by rfl, ?_⟩) ?_ ?_
                  rotate_left
                  ·intro w'
                   go_simp
                   with_reducible rfl
                  rotate_left
                  ·simp only [Act.put, List.setIfInBounds_toArray, List.set_cons_zero, List.set_cons_succ, i64_w, i32_w]
                   rfl
                  refine pure_ (i := 16) (N := some 118) (v := ?_) (a' := ?_) #[true,true,true,true,true,true,true,true,true,true,true,false,true,true,true,true,true,false,false,false,false,false,false,false,false,false,false,false,false,false,false,false,false,false,false,false,false,false,false,false] rfl rfl (any_of HT_.out (by kernel_rfl)) (fun _ _ _ h => h) (Or.inl ⟨by rfl, ?_⟩) ?_ ?_
                  rotate_left
                  ·intro w'
                   go_simp
                   with_reducible rfl
                  rotate_left
                  ·simp only [Act.put, List.setIfInBounds_toArray, List.set_cons_zero, List.set_cons_succ, i64_w, i32_w]
                   rfl
                  refine take_ (i := 11) (N := some 113) (v := ?_) (a' := ?_) #[true,true,true,true,true,true,true,true,true,true,true,true,true,true,true,true,true,false,false,false,false,false,false,false,false,false,false,false,false,false,false,false,false,false,false,false,false,false,false,false] rfl rfl (take_ofW HT_.out HW_.out (by kernel_rfl)) (fun _ _ _ h => h) (Or.inl ⟨by rfl, ?_⟩) hHeld ?_ ?_
                  rotate_left
                  ·rintro w' ⟨s0, s1, s2, s3, s4, s5⟩
                   go_simp
                   with_reducible rfl
                  rotate_left
                  ·simp only [Act.put, List.setIfInBounds_toArray, List.set_cons_zero, List.set_cons_succ, i64_w, i32_w]
                   rfl
                  refine take_ (i := 17) (N := some 119) (v := ?_) (a' := ?_) #[true,true,true,true,true,true,true,true,true,true,true,true,true,true,true,true,true,true,false,false,false,false,false,false,false,false,false,false,false,false,false,false,false,false,false,false,false,false,false,false] rfl rfl (take_ofW HT_.out HW_.out (by kernel_rfl)) (fun _ _ _ h => h) (Or.inl ⟨by rfl, ?_⟩) hHeld ?_ ?_
                  rotate_left
                  ·rintro w' ⟨s0, s1, s2, s3, s4, s5⟩
                   go_simp
                   with_reducible rfl
                  rotate_left
                  ·simp only [Act.put, List.setIfInBounds_toArray, List.set_cons_zero, List.set_cons_succ, i64_w, i32_w]
                   rfl
                  refine one_ (i := 18) (N := some 120) #[true,true,true,true,true,true,true,true,true,true,true,true,true,true,true,true,true,true,true,false,false,false,false,false,false,false,false,false,false,false,false,false,false,false,false,false,false,false,false,false] rfl rfl (one_of HT_.out (by kernel_rfl)) (by decide) (fun K hK => ?_)
                  refine goes_ Try.func11 (by kernel_rfl) rfl #[.string (rdOf ByteArray.empty l0 (ji53))] (by rfl) rfl rfl (by (try simp only [List.map_toArray, List.map_cons, List.map_nil]); first | done | (simp only [hji53]; rfl) | rfl | (simp only [List.length_drop, List.length_take]; rfl)) ?_
                  with_reducible refine (laws_forbidden.calls (rdOf ByteArray.empty l0 (ji53)) t303 _ A56.out).mono ?_
                  rintro e w60 ⟨rfl, hb⟩
                  have HS0_ := (hb.cell (World.block_lt_of_cell? _ _ (hHeld.1))).trans (hHeld.1)
                  have HS1_ := (hb.cell (World.block_lt_of_cell? _ _ (hHeld.2.1))).trans (hHeld.2.1)
                  have HS2_ := (hb.cell (World.block_lt_of_cell? _ _ (hHeld.2.2.1))).trans (hHeld.2.2.1)
                  have HS3_ := (hb.cell (World.block_lt_of_cell? _ _ (hHeld.2.2.2.1))).trans (hHeld.2.2.2.1)
                  have HS4_ := (hb.cell (World.block_lt_of_cell? _ _ (hHeld.2.2.2.2.1))).trans (hHeld.2.2.2.2.1)
                  refine ⟨_, rfl, ?_⟩
                  have n0_ := Aside0.mk (Kd.R_below (by (with_reducible repeat (first | apply Kd.R_alloc | apply Kd.R_drewN | apply Kd.R_drew)); exact HO_6.out) hb)
                  have n1_ := Aside0.mk (Kd.R_below (by (with_reducible repeat (first | apply Kd.R_alloc | apply Kd.R_drewN | apply Kd.R_drew)); exact HO295.out) hb)
                  have n2_ := Aside0.mk (Kd.S_below (by (with_reducible repeat (first | apply Kd.S_alloc | apply Kd.S_drewN | apply Kd.S_drew)); exact HO300.out) hb)
                  have n3_ := Aside0.mk (Kd.R_below (by (with_reducible repeat (first | apply Kd.R_alloc | apply Kd.R_drewN | apply Kd.R_drew)); exact HL301_3.out) hb)
                  have n4_ := Aside0.mk (Kd.R_below (by (with_reducible repeat (first | apply Kd.R_alloc | apply Kd.R_drewN | apply Kd.R_drew)); exact HL301_4.out) hb)
                  have n5_ := Aside0.mk (Kd.C_below (by first | (with_reducible exact HR301_3.out) | (with_reducible exact Kd.C_drewN HR301_3.out _) | (with_reducible exact Kd.C_drew HR301_3.out) | (with_reducible exact Kd.C_alloc HR301_3.out _) | repeat (first | (with_reducible exact HR301_3.out) | (with_reducible refine Kd.C_alloc ?_ _) | (with_reducible refine Kd.C_drewN ?_ _) | (with_reducible refine Kd.C_drew ?_) | exact HR301_3.out)) hb)
                  have n6_ := Aside0.mk (Kd.C_below (by first | (with_reducible exact HR301_4.out) | (with_reducible exact Kd.C_drewN HR301_4.out _) | (with_reducible exact Kd.C_drew HR301_4.out) | (with_reducible exact Kd.C_alloc HR301_4.out _) | repeat (first | (with_reducible exact HR301_4.out) | (with_reducible refine Kd.C_alloc ?_ _) | (with_reducible refine Kd.C_drewN ?_ _) | (with_reducible refine Kd.C_drew ?_) | exact HR301_4.out)) hb)
                  have n7_ := Aside0.mk (below_step (by repeat (first | (with_reducible first | exact HB.out | apply below_alloc | apply pw_below_drewN | apply below_drew1) | exact HB.out)) hb)
                  clear HO_6
                  clear HO295
                  clear HO300
                  clear HL301_3
                  clear HL301_4
                  clear HR301_3
                  clear HR301_4
                  clear HB
                  have HO_6 := n0_
                  have HO295 := n1_
                  have HO300 := n2_
                  have HL301_3 := n3_
                  have HL301_4 := n4_
                  have HR301_3 := n5_
                  have HR301_4 := n6_
                  have HB := n7_
                  clear n0_ n1_ n2_ n3_ n4_ n5_ n6_ n7_
                  (try clear hb)
                  (try clear hb2)
                  (try clear hk)
                  (try clear hi)
                  refine hK.out _ _ ⟨HS0_, HS1_, HS2_, HS3_, HS4_, ((HB.out.cell (World.block_lt_of_cell? w _ hw302_0)).trans hw302_0)⟩ (fun hHeld => ?_)
                  clear hK K
                  refine norm_ (a' := ?_) ?_ ?_
                  rotate_left
                  ·show Act.put _ (some 120) _ = _
                   simp only [Act.put, List.setIfInBounds_toArray, List.set_cons_zero, List.set_cons_succ, i64_w, i32_w]
                   rfl
                  refine pure_ (i := 19) (N := some 121) (v := ?_) (a' := ?_) #[true,true,true,true,true,true,true,true,true,true,true,true,true,true,true,true,true,true,true,true,false,false,false,false,false,false,false,false,false,false,false,false,false,false,false,false,false,false,false,false] rfl rfl (any_of HT_.out (by kernel_rfl)) (fun _ _ _ h => h) (Or.inl ⟨by rfl, ?_⟩) ?_ ?_
                  rotate_left
                  ·intro w'
                   go_simp
                   with_reducible rfl
                  rotate_left
                  ·simp only [Act.put, List.setIfInBounds_toArray, List.set_cons_zero, List.set_cons_succ, i64_w, i32_w]
                   rfl
                  refine pure_ (i := 20) (N := some 122) (v := ?_) (a' := ?_) #[true,true,true,true,true,true,true,true,true,true,true,true,true,true,true,true,true,true,true,true,true,false,false,false,false,false,false,false,false,false,false,false,false,false,false,false,false,false,false,false] rfl rfl (any_of HT_.out (by kernel_rfl)) (fun _ _ _ h => h) (Or.inl ⟨by rfl, ?_⟩) ?_ ?_
                  rotate_left
                  ·intro w'
                   go_simp
                   with_reducible rfl
                  rotate_left
                  ·simp only [Act.put, List.setIfInBounds_toArray, List.set_cons_zero, List.set_cons_succ, i64_w, i32_w]
                   rfl
                  refine pure_ (i := 21) (N := some 123) (v := ?_) (a' := ?_) #[true,true,true,true,true,true,true,true,true,true,true,true,true,true,true,true,true,true,true,true,true,true,false,false,false,false,false,false,false,false,false,false,false,false,false,false,false,false,false,false] rfl rfl (any_of HT_.out (by kernel_rfl)) (fun _ _ _ h => h) (Or.inl ⟨by rfl, ?_⟩) ?_ ?_
                  rotate_left
                  ·intro w'
                   go_simp
                   with_reducible rfl
                  rotate_left
                  ·simp only [Act.put, List.setIfInBounds_toArray, List.set_cons_zero, List.set_cons_succ, i64_w, i32_w]
                   rfl
                  refine pure_ (i := 22) (N := some 124) (v := undef) (a' := ?_) #[true,true,true,true,true,true,true,true,true,true,true,true,true,true,true,true,true,true,true,true,true,true,true,false,false,false,false,false,false,false,false,false,false,false,false,false,false,false,false,false] rfl rfl (any_of HT_.out (by kernel_rfl)) (fun _ _ _ h => h) (Or.inr ⟨by rfl, rfl⟩) ?_ ?_
                  rotate_left
                  ·simp only [Act.put, List.setIfInBounds_toArray, List.set_cons_zero, List.set_cons_succ, i64_w, i32_w]
                   rfl
                  refine pure_ (i := 23) (N := some 125) (v := undef) (a' := ?_) #[true,true,true,true,true,true,true,true,true,true,true,true,true,true,true,true,true,true,true,true,true,true,true,true,false,false,false,false,false,false,false,false,false,false,false,false,false,false,false,false] rfl rfl (any_of HT_.out (by kernel_rfl)) (fun _ _ _ h => h) (Or.inr ⟨by rfl, rfl⟩) ?_ ?_
                  rotate_left
                  ·simp only [Act.put, List.setIfInBounds_toArray, List.set_cons_zero, List.set_cons_succ, i64_w, i32_w]
                   rfl
                  refine pure_ (i := 24) (N := some 126) (v := undef) (a' := ?_) #[true,true,true,true,true,true,true,true,true,true,true,true,true,true,true,true,true,true,true,true,true,true,true,true,true,false,false,false,false,false,false,false,false,false,false,false,false,false,false,false] rfl rfl (any_of HT_.out (by kernel_rfl)) (fun _ _ _ h => h) (Or.inr ⟨by rfl, rfl⟩) ?_ ?_
                  rotate_left
                  ·simp only [Act.put, List.setIfInBounds_toArray, List.set_cons_zero, List.set_cons_succ, i64_w, i32_w]
                   rfl
                  refine pure_ (i := 25) (N := some 127) (v := undef) (a' := ?_) #[true,true,true,true,true,true,true,true,true,true,true,true,true,true,true,true,true,true,true,true,true,true,true,true,true,true,false,false,false,false,false,false,false,false,false,false,false,false,false,false] rfl rfl (any_of HT_.out (by kernel_rfl)) (fun _ _ _ h => h) (Or.inr ⟨by rfl, rfl⟩) ?_ ?_
                  rotate_left
                  ·simp only [Act.put, List.setIfInBounds_toArray, List.set_cons_zero, List.set_cons_succ, i64_w, i32_w]
                   rfl
                  refine pure_ (i := 26) (N := some 128) (v := undef) (a' := ?_) #[true,true,true,true,true,true,true,true,true,true,true,true,true,true,true,true,true,true,true,true,true,true,true,true,true,true,true,false,false,false,false,false,false,false,false,false,false,false,false,false] rfl rfl (any_of HT_.out (by kernel_rfl)) (fun _ _ _ h => h) (Or.inr ⟨by rfl, rfl⟩) ?_ ?_
                  rotate_left
                  ·simp only [Act.put, List.setIfInBounds_toArray, List.set_cons_zero, List.set_cons_succ, i64_w, i32_w]
                   rfl
                  refine pure_ (i := 27) (N := some 129) (v := undef) (a' := ?_) #[true,true,true,true,true,true,true,true,true,true,true,true,true,true,true,true,true,true,true,true,true,true,true,true,true,true,true,true,false,false,false,false,false,false,false,false,false,false,false,false] rfl rfl (any_of HT_.out (by kernel_rfl)) (fun _ _ _ h => h) (Or.inr ⟨by rfl, rfl⟩) ?_ ?_
                  rotate_left
                  ·simp only [Act.put, List.setIfInBounds_toArray, List.set_cons_zero, List.set_cons_succ, i64_w, i32_w]
                   rfl
                  refine pure_ (i := 28) (N := some 130) (v := undef) (a' := ?_) #[true,true,true,true,true,true,true,true,true,true,true,true,true,true,true,true,true,true,true,true,true,true,true,true,true,true,true,true,true,false,false,false,false,false,false,false,false,false,false,false] rfl rfl (any_of HT_.out (by kernel_rfl)) (fun _ _ _ h => h) (Or.inr ⟨by rfl, rfl⟩) ?_ ?_
                  rotate_left
                  ·simp only [Act.put, List.setIfInBounds_toArray, List.set_cons_zero, List.set_cons_succ, i64_w, i32_w]
                   rfl
                  refine pure_ (i := 29) (N := some 131) (v := ?_) (a' := ?_) #[true,true,true,true,true,true,true,true,true,true,true,true,true,true,true,true,true,true,true,true,true,true,true,true,true,true,true,true,true,true,false,false,false,false,false,false,false,false,false,false] rfl rfl (any_of HT_.out (by kernel_rfl)) (fun _ _ _ h => h) (Or.inl ⟨by rfl, ?_⟩) ?_ ?_
                  rotate_left
                  ·intro w'
                   go_simp
                   with_reducible rfl
                  rotate_left
                  ·simp only [Act.put, List.setIfInBounds_toArray, List.set_cons_zero, List.set_cons_succ, i64_w, i32_w]
                   rfl
                  refine pure_ (i := 30) (N := some 132) (v := ?_) (a' := ?_) #[true,true,true,true,true,true,true,true,true,true,true,true,true,true,true,true,true,true,true,true,true,true,true,true,true,true,true,true,true,true,true,false,false,false,false,false,false,false,false,false] rfl rfl (any_of HT_.out (by kernel_rfl)) (fun _ _ _ h => h) (Or.inl ⟨by rfl, ?_⟩) ?_ ?_
                  rotate_left
                  ·intro w'
                   go_simp
                   with_reducible rfl
                  rotate_left
                  ·simp only [Act.put, List.setIfInBounds_toArray, List.set_cons_zero, List.set_cons_succ, i64_w, i32_w]
                   rfl
                  refine pure_ (i := 31) (N := some 133) (v := undef) (a' := ?_) #[true,true,true,true,true,true,true,true,true,true,true,true,true,true,true,true,true,true,true,true,true,true,true,true,true,true,true,true,true,true,true,true,false,false,false,false,false,false,false,false] rfl rfl (any_of HT_.out (by kernel_rfl)) (fun _ _ _ h => h) (Or.inr ⟨by rfl, rfl⟩) ?_ ?_
                  rotate_left
                  ·simp only [Act.put, List.setIfInBounds_toArray, List.set_cons_zero, List.set_cons_succ, i64_w, i32_w]
                   rfl
                  refine pure_ (i := 32) (N := some 134) (v := undef) (a' := ?_) #[true,true,true,true,true,true,true,true,true,true,true,true,true,true,true,true,true,true,true,true,true,true,true,true,true,true,true,true,true,true,true,true,true,false,false,false,false,false,false,false] rfl rfl (any_of HT_.out (by kernel_rfl)) (fun _ _ _ h => h) (Or.inr ⟨by rfl, rfl⟩) ?_ ?_
                  rotate_left
                  ·simp only [Act.put, List.setIfInBounds_toArray, List.set_cons_zero, List.set_cons_succ, i64_w, i32_w]
                   rfl
                  refine pure_ (i := 33) (N := some 135) (v := undef) (a' := ?_) #[true,true,true,true,true,true,true,true,true,true,true,true,true,true,true,true,true,true,true,true,true,true,true,true,true,true,true,true,true,true,true,true,true,true,false,false,false,false,false,false] rfl rfl (any_of HT_.out (by kernel_rfl)) (fun _ _ _ h => h) (Or.inr ⟨by rfl, rfl⟩) ?_ ?_
                  rotate_left
                  ·simp only [Act.put, List.setIfInBounds_toArray, List.set_cons_zero, List.set_cons_succ, i64_w, i32_w]
                   rfl
                  refine pure_ (i := 34) (N := some 136) (v := undef) (a' := ?_) #[true,true,true,true,true,true,true,true,true,true,true,true,true,true,true,true,true,true,true,true,true,true,true,true,true,true,true,true,true,true,true,true,true,true,true,false,false,false,false,false] rfl rfl (any_of HT_.out (by kernel_rfl)) (fun _ _ _ h => h) (Or.inr ⟨by rfl, rfl⟩) ?_ ?_
                  rotate_left
                  ·simp only [Act.put, List.setIfInBounds_toArray, List.set_cons_zero, List.set_cons_succ, i64_w, i32_w]
                   rfl
                  refine pure_ (i := 35) (N := some 137) (v := undef) (a' := ?_) #[true,true,true,true,true,true,true,true,true,true,true,true,true,true,true,true,true,true,true,true,true,true,true,true,true,true,true,true,true,true,true,true,true,true,true,true,false,false,false,false] rfl rfl (any_of HT_.out (by kernel_rfl)) (fun _ _ _ h => h) (Or.inr ⟨by rfl, rfl⟩) ?_ ?_
                  rotate_left
                  ·simp only [Act.put, List.setIfInBounds_toArray, List.set_cons_zero, List.set_cons_succ, i64_w, i32_w]
                   rfl
                  refine pure_ (i := 36) (N := some 138) (v := undef) (a' := ?_) #[true,true,true,true,true,true,true,true,true,true,true,true,true,true,true,true,true,true,true,true,true,true,true,true,true,true,true,true,true,true,true,true,true,true,true,true,true,false,false,false] rfl rfl (any_of HT_.out (by kernel_rfl)) (fun _ _ _ h => h) (Or.inr ⟨by rfl, rfl⟩) ?_ ?_
                  rotate_left
                  ·simp only [Act.put, List.setIfInBounds_toArray, List.set_cons_zero, List.set_cons_succ, i64_w, i32_w]
                   rfl
                  refine pure_ (i := 37) (N := some 139) (v := undef) (a' := ?_) #[true,true,true,true,true,true,true,true,true,true,true,true,true,true,true,true,true,true,true,true,true,true,true,true,true,true,true,true,true,true,true,true,true,true,true,true,true,true,false,false] rfl rfl (any_of HT_.out (by kernel_rfl)) (fun _ _ _ h => h) (Or.inr ⟨by rfl, rfl⟩) ?_ ?_
                  rotate_left
                  ·simp only [Act.put, List.setIfInBounds_toArray, List.set_cons_zero, List.set_cons_succ, i64_w, i32_w]
                   rfl
                  refine pure_ (i := 38) (N := some 140) (v := undef) (a' := ?_) #[true,true,true,true,true,true,true,true,true,true,true,true,true,true,true,true,true,true,true,true,true,true,true,true,true,true,true,true,true,true,true,true,true,true,true,true,true,true,true,false] rfl rfl (any_of HT_.out (by kernel_rfl)) (fun _ _ _ h => h) (Or.inr ⟨by rfl, rfl⟩) ?_ ?_
                  rotate_left
                  ·simp only [Act.put, List.setIfInBounds_toArray, List.set_cons_zero, List.set_cons_succ, i64_w, i32_w]
                   rfl
                  refine pure_ (i := 39) (N := some 141) (v := ?_) (a' := ?_) #[true,true,true,true,true,true,true,true,true,true,true,true,true,true,true,true,true,true,true,true,true,true,true,true,true,true,true,true,true,true,true,true,true,true,true,true,true,true,true,true] rfl rfl (any_of HT_.out (by kernel_rfl)) (fun _ _ _ h => h) (Or.inl ⟨by rfl, ?_⟩) ?_ ?_
                  rotate_left
                  ·intro w'
                   go_simp
                   with_reducible rfl
                  rotate_left
                  ·simp only [Act.put, List.setIfInBounds_toArray, List.set_cons_zero, List.set_cons_succ, i64_w, i32_w]
                   rfl
                  refine done_ (done_of HT_.out (by kernel_rfl)) ?_
                  try go_wp2
                  go_meet
                  case rel => exact ⟨_, (true), (by first | rfl | (simp; done) | (rw [prx_ne]; first | done | rfl) | (simp [*]; done)), H', ⟨by have := HJ4.out; have := HJ22.out; have := HK3.out; first | omega | exact Nat.le_refl _⟩, ⟨by (with_reducible repeat (first | apply Kd.R_alloc | apply Kd.R_drewN | apply Kd.R_drew)); exact HO_6.out⟩, ⟨by (with_reducible repeat (first | apply Kd.S_alloc | apply Kd.S_drewN | apply Kd.S_drew)); exact Kd.S_mono HO300.out (fun _ hk => hk.2)⟩, ⟨by repeat (first | (with_reducible first | exact HB.out | apply below_alloc | apply pw_below_drewN | apply below_drew1) | exact HB.out)⟩⟩
                 ·rw [if_neg c57] at H
                  have c57b0 : (((rd_T32 t296 0).f1) == t303) = false := by simpa using c57
                  (try (have c57b1 : decide (((rd_T32 t296 0).f1) = t303) = false := by simpa using c57))
                  (try (have c57b2 : (((rd_T32 t296 0).f1) == t303) = false := by simpa using c57))
                  (try (have c57b3 : ¬ (((rd_T32 t296 0).f1) = t303) := by simpa using c57))
                  clear c57
                  by_cases c61 : 1 < (t296.length : Int)
                  ·rw [if_pos c61] at H
                   have c61b0 : decide (1 < (t296.length : Int)) = true := decide_eq_true c61
                   have c61b1 : decide (1 < t296.length) = true := decide_eq_true (by omega)
                   clear c61
                   replace H := Option.bind_eq_some_iff.mp H
                   obtain ⟨t305, A620, H⟩ := H
                   replace H : (if t305 = true then (if 3 < (t296.length : Int) then (laws_FnTrailerNames.j4 k3 x6_3 t296 (((rd_T32 t296 3).f1) != ((x6_3.length : Int) == 0))) else (none)) else (laws_FnTrailerNames.j4 k3 x6_3 t296 true)) = some r := H
                   have A62 := Aside0.mk A620
                   clear A620
                   by_cases c63 : t305 = true
                   ·subst c63
                    have H1 : (if 3 < (t296.length : Int) then (laws_FnTrailerNames.j4 k3 x6_3 t296 (((rd_T32 t296 3).f1) != ((x6_3.length : Int) == 0))) else (none)) = some r := by rw [if_pos rfl] at H; exact H
                    clear H
                    have H := H1
                    clear H1
                    by_cases c64 : 3 < (t296.length : Int)
                    ·rw [if_pos c64] at H
                     have c64b0 : decide (3 < (t296.length : Int)) = true := decide_eq_true c64
                     have c64b1 : decide (3 < t296.length) = true := decide_eq_true (by omega)
                     clear c64
                     have H' := Aside0.mk H
                     clear H
                     try go_wp2
                     have n0_ := Aside0.mk (Kd.R_drew HO_6.out)
                     have n1_ := Aside0.mk (Kd.R_drew HO295.out)
                     have n2_ := Aside0.mk (Kd.S_drew HO300.out)
                     have n3_ := Aside0.mk (below_drew1 HB.out)
                     clear HO_6
                     clear HO295
                     clear HO300
                     clear HB
                     have HO_6 := n0_
                     have HO295 := n1_
                     have HO300 := n2_
                     have HB := n3_
                     clear n0_ n1_ n2_ n3_
                     obtain ⟨Ao66, co66, eo66⟩ := Kd.S_slice HO300.out
                     (first | subst eo66 | (injection eo66 with f1_ f2_ f3_; have f4_ := f1_.symm; have f5_ := f3_.symm; clear f1_ f2_ f3_; subst f4_; subst f5_))
                     have p301 : 0 ≤ (0 : Int) := (by omega)
                     have q301 : 0 < (t296.length : Int) := of_decide_eq_true (by first | (with_reducible assumption) | assumption)
                     obtain ⟨ad301, A301_3, c301_3, A301_4, c301_4, e301, hx301_0, hx301_1, hx301_2, hx301_3, hx301_4, hl301_3, hi301_3, hl301_4, hi301_4⟩ := at_T32 (Kd.S_reads' HO300.out).2.2 0 p301 q301
                     cases e301
                     obtain ⟨ce301, hce301, hMe301, hcc301⟩ := Kd.S_get HO300.out z32 0 p301 (by first | exact q301 | exact of_decide_eq_true (by first | (with_reducible assumption) | assumption) | (have e_ := (Kd.S_reads' HO300.out).1; omega))
                     obtain ⟨ve301_3, ve301_4, rfl, ge301_3, ge301_4⟩ := k32_openM hMe301
                     have hv301_3 := hcc301 3 _ rfl
                     rw [add_field _ _ 3 (by omega)] at hv301_3
                     replace hv301_3 := Option.some.inj (hv301_3.symm.trans hx301_3)
                     rw [hv301_3] at ge301_3
                     have HL301_3 := Aside0.mk (show Kd.R Kd.string 9 _ _ _ _ ((rd_T32 t296 0).f3) from ge301_3)
                     clear hv301_3 ge301_3
                     have hv301_4 := hcc301 4 _ rfl
                     rw [add_field _ _ 4 (by omega)] at hv301_4
                     replace hv301_4 := Option.some.inj (hv301_4.symm.trans hx301_4)
                     rw [hv301_4] at ge301_4
                     have HL301_4 := Aside0.mk (show Kd.R k34 34 _ _ _ _ ((rd_T32 t296 0).f4) from ge301_4)
                     clear hv301_4 ge301_4
                     clear hcc301 hce301
                     have qi301 : (0 < t296.length) = True := eq_true (by omega)
                     (try rw [show ((0 : Int)).toNat = 0 from rfl] at hx301_0)
                     (try rw [show 0 * 5 = 0 from rfl] at hx301_0)
                     (try rw [Addr.add_zero'] at hx301_0)
                     (try rw [show ((0 : Int)).toNat = 0 from rfl] at hx301_1)
                     (try rw [show 0 * 5 = 0 from rfl] at hx301_1)
                     (try rw [Addr.add_zero'] at hx301_1)
                     (try rw [show ((0 : Int)).toNat = 0 from rfl] at hx301_2)
                     (try rw [show 0 * 5 = 0 from rfl] at hx301_2)
                     (try rw [Addr.add_zero'] at hx301_2)
                     (try rw [show ((0 : Int)).toNat = 0 from rfl] at hx301_3)
                     (try rw [show 0 * 5 = 0 from rfl] at hx301_3)
                     (try rw [Addr.add_zero'] at hx301_3)
                     (try rw [show ((0 : Int)).toNat = 0 from rfl] at hx301_4)
                     (try rw [show 0 * 5 = 0 from rfl] at hx301_4)
                     (try rw [Addr.add_zero'] at hx301_4)
                     have HR301_3 := Aside0.mk hi301_3
                     have HC301_3 := Aside0.mk hl301_3
                     clear hi301_3 hl301_3
                     have HR301_4 := Aside0.mk hi301_4
                     have HC301_4 := Aside0.mk hl301_4
                     clear hi301_4 hl301_4
                     replace p301 := eq_true p301
                     replace q301 := eq_true q301
                     have p302 : 0 ≤ ((ji53) : Int) := of_decide_eq_true (by first | (with_reducible assumption) | assumption)
                     have q302 : (ji53) < (l0.length : Int) := of_decide_eq_true (by first | (with_reducible assumption) | assumption)
                     obtain ⟨ad302, e302, hx302_0⟩ := Kd.at_string HR0.out (ji53) p302 q302
                     have hw302_0 := hx302_0
                     cases e302
                     replace hx302_0 := (HB.out.cell (World.block_lt_of_cell? w _ hx302_0)).trans hx302_0
                     replace p302 := eq_true p302
                     replace q302 := eq_true q302
                     have p304 : 0 ≤ (1 : Int) := (by omega)
                     have q304 : 1 < (t296.length : Int) := of_decide_eq_true (by first | (with_reducible assumption) | assumption)
                     obtain ⟨ad304, A304_3, c304_3, A304_4, c304_4, e304, hx304_0, hx304_1, hx304_2, hx304_3, hx304_4, hl304_3, hi304_3, hl304_4, hi304_4⟩ := at_T32 (Kd.S_reads' HO300.out).2.2 1 p304 q304
                     obtain rfl : ad301 = ad304 := (by injection e304)
                     obtain ⟨ce304, hce304, hMe304, hcc304⟩ := Kd.S_get HO300.out z32 1 p304 (by first | exact q304 | exact of_decide_eq_true (by first | (with_reducible assumption) | assumption) | (have e_ := (Kd.S_reads' HO300.out).1; omega))
                     obtain ⟨ve304_3, ve304_4, rfl, ge304_3, ge304_4⟩ := k32_openM hMe304
                     have hv304_3 := hcc304 3 _ rfl
                     rw [add_field _ _ 3 (by omega)] at hv304_3
                     replace hv304_3 := Option.some.inj (hv304_3.symm.trans hx304_3)
                     rw [hv304_3] at ge304_3
                     have HL304_3 := Aside0.mk (show Kd.R Kd.string 9 _ _ _ _ ((rd_T32 t296 1).f3) from ge304_3)
                     clear hv304_3 ge304_3
                     have hv304_4 := hcc304 4 _ rfl
                     rw [add_field _ _ 4 (by omega)] at hv304_4
                     replace hv304_4 := Option.some.inj (hv304_4.symm.trans hx304_4)
                     rw [hv304_4] at ge304_4
                     have HL304_4 := Aside0.mk (show Kd.R k34 34 _ _ _ _ ((rd_T32 t296 1).f4) from ge304_4)
                     clear hv304_4 ge304_4
                     clear hcc304 hce304
                     (try simp only [show (1 : Int).toNat = 1 from rfl, Nat.reduceMul, Nat.reduceEqDiff, Go.Addr.add, ↓reduceIte] at hx304_0)
                     (try simp only [show (1 : Int).toNat = 1 from rfl, Nat.reduceMul, Nat.reduceEqDiff, Go.Addr.add, ↓reduceIte] at hx304_1)
                     (try simp only [show (1 : Int).toNat = 1 from rfl, Nat.reduceMul, Nat.reduceEqDiff, Go.Addr.add, ↓reduceIte] at hx304_2)
                     (try simp only [show (1 : Int).toNat = 1 from rfl, Nat.reduceMul, Nat.reduceEqDiff, Go.Addr.add, ↓reduceIte] at hx304_3)
                     (try simp only [show (1 : Int).toNat = 1 from rfl, Nat.reduceMul, Nat.reduceEqDiff, Go.Addr.add, ↓reduceIte] at hx304_4)
                     have qi304 : (1 < t296.length) = True := eq_true (by omega)
                     (try rw [show ((1 : Int)).toNat = 1 from rfl] at hx304_0)
                     (try rw [show 1 * 5 = 5 from rfl] at hx304_0)
                     (try rw [show ((1 : Int)).toNat = 1 from rfl] at hx304_1)
                     (try rw [show 1 * 5 = 5 from rfl] at hx304_1)
                     (try rw [show ((1 : Int)).toNat = 1 from rfl] at hx304_2)
                     (try rw [show 1 * 5 = 5 from rfl] at hx304_2)
                     (try rw [show ((1 : Int)).toNat = 1 from rfl] at hx304_3)
                     (try rw [show 1 * 5 = 5 from rfl] at hx304_3)
                     (try rw [show ((1 : Int)).toNat = 1 from rfl] at hx304_4)
                     (try rw [show 1 * 5 = 5 from rfl] at hx304_4)
                     have HR304_3 := Aside0.mk hi304_3
                     have HC304_3 := Aside0.mk hl304_3
                     clear hi304_3 hl304_3
                     have HR304_4 := Aside0.mk hi304_4
                     have HC304_4 := Aside0.mk hl304_4
                     clear hi304_4 hl304_4
                     replace p304 := eq_true p304
                     replace q304 := eq_true q304
                     have p306 : 0 ≤ (3 : Int) := (by omega)
                     have q306 : 3 < (t296.length : Int) := of_decide_eq_true (by first | (with_reducible assumption) | assumption)
                     obtain ⟨ad306, A306_3, c306_3, A306_4, c306_4, e306, hx306_0, hx306_1, hx306_2, hx306_3, hx306_4, hl306_3, hi306_3, hl306_4, hi306_4⟩ := at_T32 (Kd.S_reads' HO300.out).2.2 3 p306 q306
                     obtain rfl : ad301 = ad306 := (by injection e306)
                     obtain ⟨ce306, hce306, hMe306, hcc306⟩ := Kd.S_get HO300.out z32 3 p306 (by first | exact q306 | exact of_decide_eq_true (by first | (with_reducible assumption) | assumption) | (have e_ := (Kd.S_reads' HO300.out).1; omega))
                     obtain ⟨ve306_3, ve306_4, rfl, ge306_3, ge306_4⟩ := k32_openM hMe306
                     have hv306_3 := hcc306 3 _ rfl
                     rw [add_field _ _ 3 (by omega)] at hv306_3
                     replace hv306_3 := Option.some.inj (hv306_3.symm.trans hx306_3)
                     rw [hv306_3] at ge306_3
                     have HL306_3 := Aside0.mk (show Kd.R Kd.string 9 _ _ _ _ ((rd_T32 t296 3).f3) from ge306_3)
                     clear hv306_3 ge306_3
                     have hv306_4 := hcc306 4 _ rfl
                     rw [add_field _ _ 4 (by omega)] at hv306_4
                     replace hv306_4 := Option.some.inj (hv306_4.symm.trans hx306_4)
                     rw [hv306_4] at ge306_4
                     have HL306_4 := Aside0.mk (show Kd.R k34 34 _ _ _ _ ((rd_T32 t296 3).f4) from ge306_4)
                     clear hv306_4 ge306_4
                     clear hcc306 hce306
                     (try simp only [show (3 : Int).toNat = 3 from rfl, Nat.reduceMul, Nat.reduceEqDiff, Go.Addr.add, ↓reduceIte] at hx306_0)
                     (try simp only [show (3 : Int).toNat = 3 from rfl, Nat.reduceMul, Nat.reduceEqDiff, Go.Addr.add, ↓reduceIte] at hx306_1)
                     (try simp only [show (3 : Int).toNat = 3 from rfl, Nat.reduceMul, Nat.reduceEqDiff, Go.Addr.add, ↓reduceIte] at hx306_2)
                     (try simp only [show (3 : Int).toNat = 3 from rfl, Nat.reduceMul, Nat.reduceEqDiff, Go.Addr.add, ↓reduceIte] at hx306_3)
                     (try simp only [show (3 : Int).toNat = 3 from rfl, Nat.reduceMul, Nat.reduceEqDiff, Go.Addr.add, ↓reduceIte] at hx306_4)
                     have qi306 : (3 < t296.length) = True := eq_true (by omega)
                     (try rw [show ((3 : Int)).toNat = 3 from rfl] at hx306_0)
                     (try rw [show 3 * 5 = 15 from rfl] at hx306_0)
                     (try rw [show ((3 : Int)).toNat = 3 from rfl] at hx306_1)
                     (try rw [show 3 * 5 = 15 from rfl] at hx306_1)
                     (try rw [show ((3 : Int)).toNat = 3 from rfl] at hx306_2)
                     (try rw [show 3 * 5 = 15 from rfl] at hx306_2)
                     (try rw [show ((3 : Int)).toNat = 3 from rfl] at hx306_3)
                     (try rw [show 3 * 5 = 15 from rfl] at hx306_3)
                     (try rw [show ((3 : Int)).toNat = 3 from rfl] at hx306_4)
                     (try rw [show 3 * 5 = 15 from rfl] at hx306_4)
                     have HR306_3 := Aside0.mk hi306_3
                     have HC306_3 := Aside0.mk hl306_3
                     clear hi306_3 hl306_3
                     have HR306_4 := Aside0.mk hi306_4
                     have HC306_4 := Aside0.mk hl306_4
                     clear hi306_4 hl306_4
                     replace p306 := eq_true p306
                     replace q306 := eq_true q306
                     refine start_ (n := 40) (S := fun w' => w'.cell? ad301 = some (.string ((rd_T32 t296 0).f0)) ∧ w'.cell? ⟨ad301.block, ad301.off + 1, none⟩ = some (.bool ((rd_T32 t296 0).f1)) ∧ w'.cell? ⟨ad301.block, ad301.off + 2, none⟩ = some (.int .i64 ((rd_T32 t296 0).f2)) ∧ w'.cell? ⟨ad301.block, ad301.off + 3, none⟩ = some (.slice A301_3 ((rd_T32 t296 0).f3).length c301_3) ∧ w'.cell? ⟨ad301.block, ad301.off + 4, none⟩ = some (.slice A301_4 ((rd_T32 t296 0).f4).length c301_4) ∧ w'.cell? (ad302.add ((ji53)).toNat) = some (.string (rdOf ByteArray.empty l0 (ji53))) ∧ w'.cell? ⟨ad301.block, ad301.off + 5, none⟩ = some (.string ((rd_T32 t296 1).f0)) ∧ w'.cell? ⟨ad301.block, ad301.off + 5 + 1, none⟩ = some (.bool ((rd_T32 t296 1).f1)) ∧ w'.cell? ⟨ad301.block, ad301.off + 5 + 2, none⟩ = some (.int .i64 ((rd_T32 t296 1).f2)) ∧ w'.cell? ⟨ad301.block, ad301.off + 5 + 3, none⟩ = some (.slice A304_3 ((rd_T32 t296 1).f3).length c304_3) ∧ w'.cell? ⟨ad301.block, ad301.off + 5 + 4, none⟩ = some (.slice A304_4 ((rd_T32 t296 1).f4).length c304_4) ∧ w'.cell? ⟨ad301.block, ad301.off + 15, none⟩ = some (.string ((rd_T32 t296 3).f0)) ∧ w'.cell? ⟨ad301.block, ad301.off + 15 + 1, none⟩ = some (.bool ((rd_T32 t296 3).f1)) ∧ w'.cell? ⟨ad301.block, ad301.off + 15 + 2, none⟩ = some (.int .i64 ((rd_T32 t296 3).f2)) ∧ w'.cell? ⟨ad301.block, ad301.off + 15 + 3, none⟩ = some (.slice A306_3 ((rd_T32 t296 3).f3).length c306_3) ∧ w'.cell? ⟨ad301.block, ad301.off + 15 + 4, none⟩ = some (.slice A306_4 ((rd_T32 t296 3).f4).length c306_4)) (ds := []) #[false,false,false,false,false,false,false,false,false,false,false,false,false,false,false,false,false,false,false,false,false,false,false,false,false,false,false,false,false,false,false,false,false,false,false,false,false,false,false,false] (by kernel_rfl) rfl rfl ⟨hx301_0, hx301_1, hx301_2, hx301_3, hx301_4, ((HB.out.cell (World.block_lt_of_cell? w _ hw302_0)).trans hw302_0), hx304_0, hx304_1, hx304_2, hx304_3, hx304_4, hx306_0, hx306_1, hx306_2, hx306_3, hx306_4⟩ (fun hHeld => ?_); refine with_tabW laws_FnTrailerNames.tab18 laws_FnTrailerNames.bits18 (fun HT_ HW_ => ?_)
                     generalize w49.drew = w65 at HO_6 HO295 HO300 HB HL301_3 HL301_4 HL304_3 HL304_4 HL306_3 HL306_4 HR301_3 HR301_4 HR304_3 HR304_4 HR306_3 HR306_4 hx301_0 hx301_1 hx301_2 hx301_3 hx301_4 hx302_0 hx304_0 hx304_1 hx304_2 hx304_3 hx304_4 hx306_0 hx306_1 hx306_2 hx306_3 hx306_4 hHeld ⊢
                     refine pure_ (i := 0) (N := some 102) (v := ?_) (a' := ?_) #[true,false,false,false,false,false,false,false,false,false,false,false,false,false,false,false,false,false,false,false,false,false,false,false,false,false,false,false,false,false,false,false,false,false,false,false,false,false,false,false] rfl rfl (any_of HT_.out (by kernel_rfl)) (fun _ _ _ h => h) (Or.inl ⟨by rfl, ?_⟩) ?_ ?_
                     rotate_left
                     ·intro w'
                      go_simp
                      with_reducible rfl
                     rotate_left
                     ·simp only [Act.put, List.setIfInBounds_toArray, List.set_cons_zero, List.set_cons_succ, i64_w, i32_w]
                      rfl
                     refine pure_ (i := 1) (N := some 103) (v := ?_) (a' := ?_) #[true,true,false,false,false,false,false,false,false,false,false,false,false,false,false,false,false,false,false,false,false,false,false,false,false,false,false,false,false,false,false,false,false,false,false,false,false,false,false,false] rfl rfl (any_of HT_.out (by kernel_rfl)) (fun _ _ _ h => h) (Or.inl ⟨by rfl, ?_⟩) ?_ ?_
                     rotate_left
                     ·intro w'
                      go_simp
                      with_reducible rfl
                     rotate_left
                     ·simp only [Act.put, List.setIfInBounds_toArray, List.set_cons_zero, List.set_cons_succ, i64_w, i32_w]
                      rfl
                     refine pure_ (i := 2) (N := some 104) (v := ?_) (a' := ?_) #[true,true,true,false,false,false,false,false,false,false,false,false,false,false,false,false,false,false,false,false,false,false,false,false,false,false,false,false,false,false,false,false,false,false,false,false,false,false,false,false] rfl rfl (any_of HT_.out (by kernel_rfl)) (fun _ _ _ h => h) (Or.inl ⟨by rfl, ?_⟩) ?_ ?_
                     rotate_left
                     ·intro w'
                      go_simp
                      with_reducible rfl
                     rotate_left
                     ·simp only [Act.put, List.setIfInBounds_toArray, List.set_cons_zero, List.set_cons_succ, i64_w, i32_w]
                      rfl
                     refine pure_ (i := 3) (N := some 105) (v := ?_) (a' := ?_) #[true,true,true,true,false,false,false,false,false,false,false,false,false,false,false,false,false,false,false,false,false,false,false,false,false,false,false,false,false,false,false,false,false,false,false,false,false,false,false,false] rfl rfl (any_of HT_.out (by kernel_rfl)) (fun _ _ _ h => h) (Or.inl ⟨by rfl, ?_⟩) ?_ ?_
                     rotate_left
                     ·intro w'
                      go_simp
                      with_reducible rfl
                     rotate_left
                     ·simp only [Act.put, List.setIfInBounds_toArray, List.set_cons_zero, List.set_cons_succ, i64_w, i32_w]
                      rfl
                     refine pure_ (i := 4) (N := some 106) (v := ?_) (a' := ?_) #[true,true,true,true,true,false,false,false,false,false,false,false,false,false,false,false,false,false,false,false,false,false,false,false,false,false,false,false,false,false,false,false,false,false,false,false,false,false,false,false] rfl rfl (any_of HT_.out (by kernel_rfl)) (fun _ _ _ h => h) (Or.inl ⟨by rfl, ?_⟩) ?_ ?_
                     rotate_left
                     ·intro w'
                      go_simp
                      with_reducible rfl
                     rotate_left
                     ·simp only [Act.put, List.setIfInBounds_toArray, List.set_cons_zero, List.set_cons_succ, i64_w, i32_w]
                      rfl
                     refine pure_ (i := 5) (N := some 107) (v := ?_) (a' := ?_) #[true,true,true,true,true,true,false,false,false,false,false,false,false,false,false,false,false,false,false,false,false,false,false,false,false,false,false,false,false,false,false,false,false,false,false,false,false,false,false,false] rfl rfl (any_of HT_.out (by kernel_rfl)) (fun _ _ _ h => h) (Or.inl ⟨by rfl, ?_⟩) ?_ ?_
                     rotate_left
                     ·intro w'
                      go_simp
                      with_reducible rfl
                     rotate_left
                     ·simp only [Act.put, List.setIfInBounds_toArray, List.set_cons_zero, List.set_cons_succ, i64_w, i32_w]
                      rfl
                     refine pure_ (i := 6) (N := some 108) (v := ?_) (a' := ?_) #[true,true,true,true,true,true,true,false,false,false,false,false,false,false,false,false,false,false,false,false,false,false,false,false,false,false,false,false,false,false,false,false,false,false,false,false,false,false,false,false] rfl rfl (any_of HT_.out (by kernel_rfl)) (fun _ _ _ h => h) (Or.inl ⟨by rfl, ?_⟩) ?_ ?_
                     rotate_left
                     ·intro w'
                      go_simp
                      with_reducible rfl
                     rotate_left
                     ·simp only [Act.put, List.setIfInBounds_toArray, List.set_cons_zero, List.set_cons_succ, i64_w, i32_w]
                      rfl
                     refine pure_ (i := 7) (N := some 109) (v := ?_) (a' := ?_) #[true,true,true,true,true,true,true,true,false,false,false,false,false,false,false,false,false,false,false,false,false,false,false,false,false,false,false,false,false,false,false,false,false,false,false,false,false,false,false,false] rfl rfl (any_of HT_.out (by kernel_rfl)) (fun _ _ _ h => h) (Or.inl ⟨by rfl, ?_⟩) ?_ ?_
                     rotate_left
                     ·intro w'
                      go_simp
                      with_reducible rfl
                     rotate_left
                     ·simp only [Act.put, List.setIfInBounds_toArray, List.set_cons_zero, List.set_cons_succ, i64_w, i32_w]
                      rfl
                     refine pure_ (i := 8) (N := some 110) (v := ?_) (a' := ?_) #[true,true,true,true,true,true,true,true,true,false,false,false,false,false,false,false,false,false,false,false,false,false,false,false,false,false,false,false,false,false,false,false,false,false,false,false,false,false,false,false] rfl rfl (any_of HT_.out (by kernel_rfl)) (fun _ _ _ h => h) (Or.inl ⟨by rfl, ?_⟩) ?_ ?_
                     rotate_left
                     ·intro w'
                      go_simp
                      with_reducible rfl
                     rotate_left
                     ·simp only [Act.put, List.setIfInBounds_toArray, List.set_cons_zero, List.set_cons_succ, i64_w, i32_w]
                      rfl
                     refine pure_ (i := 9) (N := some 111) (v := ?_) (a' := ?_) #[true,true,true,true,true,true,true,true,true,true,false,false,false,false,false,false,false,false,false,false,false,false,false,false,false,false,false,false,false,false,false,false,false,false,false,false,false,false,false,false] rfl rfl (any_of HT_.out (by kernel_rfl)) (fun _ _ _ h => h) (Or.inl ⟨by rfl, ?_⟩) ?_ ?_
                     rotate_left
                     ·intro w'
                      go_simp
                      with_reducible rfl
                     rotate_left
                     ·simp only [Act.put, List.setIfInBounds_toArray, List.set_cons_zero, List.set_cons_succ, i64_w, i32_w]
                      rfl
                     refine pure_ (i := 10) (N := some 112) (v := ?_) (a' := ?_) #[true,true,true,true,true,true,true,true,true,true,true,false,false,false,false,false,false,false,false,false,false,false,false,false,false,false,false,false,false,false,false,false,false,false,false,false,false,false,false,false] rfl rfl (any_of HT_.out (by kernel_rfl)) (fun _ _ _ h => h) (Or.inl ⟨by rfl, ?_⟩) ?_ ?_
                     rotate_left
                     ·intro w'
                      go_simp
                      with_reducible rfl
                     rotate_left
                     ·simp only [Act.put, List.setIfInBounds_toArray, List.set_cons_zero, List.set_cons_succ, i64_w, i32_w]
                      rfl
                     refine pure_ (i := 12) (N := some 114) (v := ?_) (a' := ?_) #[true,true,true,true,true,true,true,true,true,true,true,false,true,false,false,false,false,false,false,false,false,false,false,false,false,false,false,false,false,false,false,false,false,false,false,false,false,false,false,false] rfl rfl (any_of HT_.out (by kernel_rfl)) (fun _ _ _ h => h) (Or.inl ⟨by rfl, ?_⟩) ?_ ?_
                     rotate_left
                     ·intro w'
                      go_simp
                      with_reducible rfl
                     rotate_left
                     ·simp only [Act.put, List.setIfInBounds_toArray, List.set_cons_zero, List.set_cons_succ, i64_w, i32_w]
                      rfl
                     refine pure_ (i := 13) (N := some 115) (v := ?_) (a' := ?_) #[true,true,true,true,true,true,true,true,true,true,true,false,true,true,false,false,false,false,false,false,false,false,false,false,false,false,false,false,false,false,false,false,false,false,false,false,false,false,false,false] rfl rfl (any_of HT_.out (by kernel_rfl)) (fun _ _ _ h => h) (Or.inl ⟨by rfl, ?_⟩) ?_ ?_
                     rotate_left
                     ·intro w'
                      go_simp
                      with_reducible rfl
                     rotate_left
                     ·simp only [Act.put, List.setIfInBounds_toArray, List.set_cons_zero, List.set_cons_succ, i64_w, i32_w]
                      rfl
                     refine pure_ (i := 14) (N := some 116) (v := ?_) (a' := ?_) #[true,true,true,true,true,true,true,true,true,true,true,false,true,true,true,false,false,false,false,false,false,false,false,false,false,false,false,false,false,false,false,false,false,false,false,false,false,false,false,false] rfl rfl (any_of HT_.out (by kernel_rfl)) (fun _ _ _ h => h) (Or.inl ⟨by rfl, ?_⟩) ?_ ?_
                     rotate_left
                     ·intro w'
                      go_simp
                      with_reducible rfl
                     rotate_left
                     ·simp only [Act.put, List.setIfInBounds_toArray, List.set_cons_zero, List.set_cons_succ, i64_w, i32_w]
                      rfl
                     refine pure_ (i := 15) (N := some 117) (v := ?_) (a' := ?_) #[true,true,true,true,true,true,true,true,true,true,true,false,true,true,true,true,false,false,false,false,false,false,false,false,false,false,false,false,false,false,false,false,false,false,false,false,false,false,false,false] rfl rfl (any_of HT_.out (by kernel_rfl)) (fun _ _ _ h => h) (Or.inl ⟨by rfl, ?_⟩) ?_ ?_
                     rotate_left
                     ·intro w'
                      go_simp
                      with_reducible rfl
                     rotate_left
                     ·simp only [Act.put, List.setIfInBounds_toArray, List.set_cons_zero, List.set_cons_succ, i64_w, i32_w]
                      rfl
                     refine pure_ (i := 16) (N := some 118) (v := ?_) (a' := ?_) #[true,true,true,true,true,true,true,true,true,true,true,false,true,true,true,true,true,false,false,false,false,false,false,false,false,false,false,false,false,false,false,false,false,false,false,false,false,false,false,false] rfl rfl (any_of HT_.out (by kernel_rfl)) (fun _ _ _ h => h) (Or.inl ⟨by rfl, ?_⟩) ?_ ?_
                     rotate_left
                     ·intro w'
                      go_simp
                      with_reducible rfl
                     rotate_left
                     ·simp only [Act.put, List.setIfInBounds_toArray, List.set_cons_zero, List.set_cons_succ, i64_w, i32_w]
                      rfl
                     refine take_ (i := 11) (N := some 113) (v := ?_) (a' := ?_) #[true,true,true,true,true,true,true,true,true,true,true,true,true,true,true,true,true,false,false,false,false,false,false,false,false,false,false,false,false,false,false,false,false,false,false,false,false,false,false,false] rfl rfl (take_ofW HT_.out HW_.out (by kernel_rfl)) (fun _ _ _ h => h) (Or.inl ⟨by rfl, ?_⟩) hHeld ?_ ?_
                     rotate_left
                     ·rintro w' ⟨s0, s1, s2, s3, s4, s5, s6, s7, s8, s9, s10, s11, s12, s13, s14, s15⟩
                      go_simp
                      with_reducible rfl
                     rotate_left
                     ·simp only [Act.put, List.setIfInBounds_toArray, List.set_cons_zero, List.set_cons_succ, i64_w, i32_w]
                      rfl
                     refine take_ (i := 17) (N := some 119) (v := ?_) (a' := ?_) #[true,true,true,true,true,true,true,true,true,true,true,true,true,true,true,true,true,true,false,false,false,false,false,false,false,false,false,false,false,false,false,false,false,false,false,false,false,false,false,false] rfl rfl (take_ofW HT_.out HW_.out (by kernel_rfl)) (fun _ _ _ h => h) (Or.inl ⟨by rfl, ?_⟩) hHeld ?_ ?_
                     rotate_left
                     ·rintro w' ⟨s0, s1, s2, s3, s4, s5, s6, s7, s8, s9, s10, s11, s12, s13, s14, s15⟩
                      go_simp
                      with_reducible rfl
                     rotate_left
                     ·simp only [Act.put, List.setIfInBounds_toArray, List.set_cons_zero, List.set_cons_succ, i64_w, i32_w]
                      rfl
                     refine one_ (i := 18) (N := some 120) #[true,true,true,true,true,true,true,true,true,true,true,true,true,true,true,true,true,true,true,false,false,false,false,false,false,false,false,false,false,false,false,false,false,false,false,false,false,false,false,false] rfl rfl (one_of HT_.out (by kernel_rfl)) (by decide) (fun K hK => ?_)
                     refine goes_ Try.func11 (by kernel_rfl) rfl #[.string (rdOf ByteArray.empty l0 (ji53))] (by rfl) rfl rfl (by (try simp only [List.map_toArray, List.map_cons, List.map_nil]); first | done | (simp only [hji53]; rfl) | rfl | (simp only [List.length_drop, List.length_take]; rfl)) ?_
                     with_reducible refine (laws_forbidden.calls (rdOf ByteArray.empty l0 (ji53)) t303 _ A56.out).mono ?_
                     rintro e w67 ⟨rfl, hb⟩
                     have HS0_ := (hb.cell (World.block_lt_of_cell? _ _ (hHeld.1))).trans (hHeld.1)
                     have HS1_ := (hb.cell (World.block_lt_of_cell? _ _ (hHeld.2.1))).trans (hHeld.2.1)
                     have HS2_ := (hb.cell (World.block_lt_of_cell? _ _ (hHeld.2.2.1))).trans (hHeld.2.2.1)
                     have HS3_ := (hb.cell (World.block_lt_of_cell? _ _ (hHeld.2.2.2.1))).trans (hHeld.2.2.2.1)
                     have HS4_ := (hb.cell (World.block_lt_of_cell? _ _ (hHeld.2.2.2.2.1))).trans (hHeld.2.2.2.2.1)
                     have HS6_ := (hb.cell (World.block_lt_of_cell? _ _ (hHeld.2.2.2.2.2.2.1))).trans (hHeld.2.2.2.2.2.2.1)
                     have HS7_ := (hb.cell (World.block_lt_of_cell? _ _ (hHeld.2.2.2.2.2.2.2.1))).trans (hHeld.2.2.2.2.2.2.2.1)
                     have HS8_ := (hb.cell (World.block_lt_of_cell? _ _ (hHeld.2.2.2.2.2.2.2.2.1))).trans (hHeld.2.2.2.2.2.2.2.2.1)
                     have HS9_ := (hb.cell (World.block_lt_of_cell? _ _ (hHeld.2.2.2.2.2.2.2.2.2.1))).trans (hHeld.2.2.2.2.2.2.2.2.2.1)
                     have HS10_ := (hb.cell (World.block_lt_of_cell? _ _ (hHeld.2.2.2.2.2.2.2.2.2.2.1))).trans (hHeld.2.2.2.2.2.2.2.2.2.2.1)
                     have HS11_ := (hb.cell (World.block_lt_of_cell? _ _ (hHeld.2.2.2.2.2.2.2.2.2.2.2.1))).trans (hHeld.2.2.2.2.2.2.2.2.2.2.2.1)
                     have HS12_ := (hb.cell (World.block_lt_of_cell? _ _ (hHeld.2.2.2.2.2.2.2.2.2.2.2.2.1))).trans (hHeld.2.2.2.2.2.2.2.2.2.2.2.2.1)
                     have HS13_ := (hb.cell (World.block_lt_of_cell? _ _ (hHeld.2.2.2.2.2.2.2.2.2.2.2.2.2.1))).trans (hHeld.2.2.2.2.2.2.2.2.2.2.2.2.2.1)
                     have HS14_ := (hb.cell (World.block_lt_of_cell? _ _ (hHeld.2.2.2.2.2.2.2.2.2.2.2.2.2.2.1))).trans (hHeld.2.2.2.2.2.2.2.2.2.2.2.2.2.2.1)
                     have HS15_ := (hb.cell (World.block_lt_of_cell? _ _ (hHeld.2.2.2.2.2.2.2.2.2.2.2.2.2.2.2))).trans (hHeld.2.2.2.2.2.2.2.2.2.2.2.2.2.2.2)
                     refine ⟨_, rfl, ?_⟩
                     (try (have nx_ := Aside0.mk (Kd.C_below (by first | (with_reducible exact HR304_4.out) | (with_reducible exact Kd.C_drewN HR304_4.out _) | (with_reducible exact Kd.C_drew HR304_4.out) | (with_reducible exact Kd.C_alloc HR304_4.out _)) hb); clear HR304_4; have HR304_4 := nx_; clear nx_))
                     have n0_ := Aside0.mk (Kd.R_below (by (with_reducible repeat (first | apply Kd.R_alloc | apply Kd.R_drewN | apply Kd.R_drew)); exact HO_6.out) hb)
                     have n1_ := Aside0.mk (Kd.R_below (by (with_reducible repeat (first | apply Kd.R_alloc | apply Kd.R_drewN | apply Kd.R_drew)); exact HO295.out) hb)
                     have n2_ := Aside0.mk (Kd.S_below (by (with_reducible repeat (first | apply Kd.S_alloc | apply Kd.S_drewN | apply Kd.S_drew)); exact HO300.out) hb)
                     have n3_ := Aside0.mk (Kd.R_below (by (with_reducible repeat (first | apply Kd.R_alloc | apply Kd.R_drewN | apply Kd.R_drew)); exact HL301_3.out) hb)
                     have n4_ := Aside0.mk (Kd.R_below (by (with_reducible repeat (first | apply Kd.R_alloc | apply Kd.R_drewN | apply Kd.R_drew)); exact HL301_4.out) hb)
                     have n5_ := Aside0.mk (Kd.C_below (by first | (with_reducible exact HR301_3.out) | (with_reducible exact Kd.C_drewN HR301_3.out _) | (with_reducible exact Kd.C_drew HR301_3.out) | (with_reducible exact Kd.C_alloc HR301_3.out _) | repeat (first | (with_reducible exact HR301_3.out) | (with_reducible refine Kd.C_alloc ?_ _) | (with_reducible refine Kd.C_drewN ?_ _) | (with_reducible refine Kd.C_drew ?_) | exact HR301_3.out)) hb)
                     have n6_ := Aside0.mk (Kd.C_below (by first | (with_reducible exact HR301_4.out) | (with_reducible exact Kd.C_drewN HR301_4.out _) | (with_reducible exact Kd.C_drew HR301_4.out) | (with_reducible exact Kd.C_alloc HR301_4.out _) | repeat (first | (with_reducible exact HR301_4.out) | (with_reducible refine Kd.C_alloc ?_ _) | (with_reducible refine Kd.C_drewN ?_ _) | (with_reducible refine Kd.C_drew ?_) | exact HR301_4.out)) hb)
                     have n7_ := Aside0.mk (below_step (by repeat (first | (with_reducible first | exact HB.out | apply below_alloc | apply pw_below_drewN | apply below_drew1) | exact HB.out)) hb)
                     clear HO_6
                     clear HO295
                     clear HO300
                     clear HL301_3
                     clear HL301_4
                     clear HR301_3
                     clear HR301_4
                     clear HB
                     have HO_6 := n0_
                     have HO295 := n1_
                     have HO300 := n2_
                     have HL301_3 := n3_
                     have HL301_4 := n4_
                     have HR301_3 := n5_
                     have HR301_4 := n6_
                     have HB := n7_
                     clear n0_ n1_ n2_ n3_ n4_ n5_ n6_ n7_
                     (try clear hb)
                     (try clear hb2)
                     (try clear hk)
                     (try clear hi)
                     obtain ⟨Ao68, co68, eo68⟩ := Kd.R_slice HO_6.out
                     (first | subst eo68 | (injection eo68 with f1_ f2_ f3_; have f4_ := f1_.symm; have f5_ := f3_.symm; clear f1_ f2_ f3_; subst f4_; subst f5_))
                     refine hK.out _ _ ⟨HS0_, HS1_, HS2_, HS3_, HS4_, ((HB.out.cell (World.block_lt_of_cell? w _ hw302_0)).trans hw302_0), HS6_, HS7_, HS8_, HS9_, HS10_, HS11_, HS12_, HS13_, HS14_, HS15_⟩ (fun hHeld => ?_)
                     clear hK K
                     refine norm_ (a' := ?_) ?_ ?_
                     rotate_left
                     ·show Act.put _ (some 120) _ = _
                      simp only [Act.put, List.setIfInBounds_toArray, List.set_cons_zero, List.set_cons_succ, i64_w, i32_w]
                      rfl
                     refine pure_ (i := 19) (N := some 121) (v := ?_) (a' := ?_) #[true,true,true,true,true,true,true,true,true,true,true,true,true,true,true,true,true,true,true,true,false,false,false,false,false,false,false,false,false,false,false,false,false,false,false,false,false,false,false,false] rfl rfl (any_of HT_.out (by kernel_rfl)) (fun _ _ _ h => h) (Or.inl ⟨by rfl, ?_⟩) ?_ ?_
                     rotate_left
                     ·intro w'
                      go_simp
                      with_reducible rfl
                     rotate_left
                     ·simp only [Act.put, List.setIfInBounds_toArray, List.set_cons_zero, List.set_cons_succ, i64_w, i32_w]
                      rfl
                     refine pure_ (i := 20) (N := some 122) (v := ?_) (a' := ?_) #[true,true,true,true,true,true,true,true,true,true,true,true,true,true,true,true,true,true,true,true,true,false,false,false,false,false,false,false,false,false,false,false,false,false,false,false,false,false,false,false] rfl rfl (any_of HT_.out (by kernel_rfl)) (fun _ _ _ h => h) (Or.inl ⟨by rfl, ?_⟩) ?_ ?_
                     rotate_left
                     ·intro w'
                      go_simp
                      with_reducible rfl
                     rotate_left
                     ·simp only [Act.put, List.setIfInBounds_toArray, List.set_cons_zero, List.set_cons_succ, i64_w, i32_w]
                      rfl
                     refine pure_ (i := 21) (N := some 123) (v := ?_) (a' := ?_) #[true,true,true,true,true,true,true,true,true,true,true,true,true,true,true,true,true,true,true,true,true,true,false,false,false,false,false,false,false,false,false,false,false,false,false,false,false,false,false,false] rfl rfl (any_of HT_.out (by kernel_rfl)) (fun _ _ _ h => h) (Or.inl ⟨by rfl, ?_⟩) ?_ ?_
                     rotate_left
                     ·intro w'
                      go_simp
                      with_reducible rfl
                     rotate_left
                     ·simp only [Act.put, List.setIfInBounds_toArray, List.set_cons_zero, List.set_cons_succ, i64_w, i32_w]
                      rfl
                     refine pure_ (i := 22) (N := some 124) (v := ?_) (a' := ?_) #[true,true,true,true,true,true,true,true,true,true,true,true,true,true,true,true,true,true,true,true,true,true,true,false,false,false,false,false,false,false,false,false,false,false,false,false,false,false,false,false] rfl rfl (any_of HT_.out (by kernel_rfl)) (fun _ _ _ h => h) (Or.inl ⟨by rfl, ?_⟩) ?_ ?_
                     rotate_left
                     ·intro w'
                      go_simp
                      with_reducible rfl
                     rotate_left
                     ·simp only [Act.put, List.setIfInBounds_toArray, List.set_cons_zero, List.set_cons_succ, i64_w, i32_w]
                      rfl
                     refine pure_ (i := 23) (N := some 125) (v := ?_) (a' := ?_) #[true,true,true,true,true,true,true,true,true,true,true,true,true,true,true,true,true,true,true,true,true,true,true,true,false,false,false,false,false,false,false,false,false,false,false,false,false,false,false,false] rfl rfl (any_of HT_.out (by kernel_rfl)) (fun _ _ _ h => h) (Or.inl ⟨by rfl, ?_⟩) ?_ ?_
                     rotate_left
                     ·intro w'
                      go_simp
                      with_reducible rfl
                     rotate_left
                     ·simp only [Act.put, List.setIfInBounds_toArray, List.set_cons_zero, List.set_cons_succ, i64_w, i32_w]
                      rfl
                     refine pure_ (i := 24) (N := some 126) (v := ?_) (a' := ?_) #[true,true,true,true,true,true,true,true,true,true,true,true,true,true,true,true,true,true,true,true,true,true,true,true,true,false,false,false,false,false,false,false,false,false,false,false,false,false,false,false] rfl rfl (any_of HT_.out (by kernel_rfl)) (fun _ _ _ h => h) (Or.inl ⟨by rfl, ?_⟩) ?_ ?_
                     rotate_left
                     ·intro w'
                      go_simp
                      with_reducible rfl
                     rotate_left
                     ·simp only [Act.put, List.setIfInBounds_toArray, List.set_cons_zero, List.set_cons_succ, i64_w, i32_w]
                      rfl
                     refine pure_ (i := 26) (N := some 128) (v := ?_) (a' := ?_) #[true,true,true,true,true,true,true,true,true,true,true,true,true,true,true,true,true,true,true,true,true,true,true,true,true,false,true,false,false,false,false,false,false,false,false,false,false,false,false,false] rfl rfl (any_of HT_.out (by kernel_rfl)) (fun _ _ _ h => h) (Or.inl ⟨by rfl, ?_⟩) ?_ ?_
                     rotate_left
                     ·intro w'
                      go_simp
                      with_reducible rfl
                     rotate_left
                     ·simp only [Act.put, List.setIfInBounds_toArray, List.set_cons_zero, List.set_cons_succ, i64_w, i32_w]
                      rfl
                     refine take_ (i := 25) (N := some 127) (v := ?_) (a' := ?_) #[true,true,true,true,true,true,true,true,true,true,true,true,true,true,true,true,true,true,true,true,true,true,true,true,true,true,true,false,false,false,false,false,false,false,false,false,false,false,false,false] rfl rfl (take_ofW HT_.out HW_.out (by kernel_rfl)) (fun _ _ _ h => h) (Or.inl ⟨by rfl, ?_⟩) hHeld ?_ ?_
                     rotate_left
                     ·rintro w' ⟨s0, s1, s2, s3, s4, s5, s6, s7, s8, s9, s10, s11, s12, s13, s14, s15⟩
                      go_simp
                      with_reducible rfl
                     rotate_left
                     ·simp only [Act.put, List.setIfInBounds_toArray, List.set_cons_zero, List.set_cons_succ, i64_w, i32_w]
                      rfl
                     refine one_ (i := 27) (N := some 129) #[true,true,true,true,true,true,true,true,true,true,true,true,true,true,true,true,true,true,true,true,true,true,true,true,true,true,true,true,false,false,false,false,false,false,false,false,false,false,false,false] rfl rfl (one_of HT_.out (by kernel_rfl)) (by decide) (fun K hK => ?_)
                     refine goes_ Try.func14 (by kernel_rfl) rfl #[.slice A304_4 ((rd_T32 t296 1).f4).length c304_4, .slice Ao68 x6_3.length co68] (by rfl) rfl rfl (by (try simp only [List.map_toArray, List.map_cons, List.map_nil]); first | done | rfl | (simp only [List.length_drop, List.length_take]; rfl)) ?_
                     with_reducible refine (laws_samePairs.calls k3 _ _ ((rd_T32 t296 1).f4) _ _ x6_3 true _ ?side1 ?side2 ?side3 ?side4 A62.out).mono ?_
                     (case side1 => repeat (first | exact (by first | (with_reducible exact HR304_4.out) | (with_reducible exact Kd.C_drewN HR304_4.out _) | (with_reducible exact Kd.C_drew HR304_4.out) | (with_reducible exact Kd.C_alloc HR304_4.out _) | repeat (first | (with_reducible exact HR304_4.out) | (with_reducible refine Kd.C_alloc ?_ _) | (with_reducible refine Kd.C_drewN ?_ _) | (with_reducible refine Kd.C_drew ?_) | exact HR304_4.out)) | (with_reducible refine Kd.C_alloc ?_ _) | (with_reducible refine Kd.C_drewN ?_ _) | (with_reducible refine Kd.C_drew ?_)))
                     (case side2 => exact HC304_4.out)
                     (case side3 => repeat (first | exact (Kd.R_reads' HO_6.out).2.2 | (with_reducible refine Kd.C_alloc ?_ _) | (with_reducible refine Kd.C_drewN ?_ _) | (with_reducible refine Kd.C_drew ?_)))
                     (case side4 => exact (Kd.R_reads' HO_6.out).2.1)
                     rintro e w' ⟨rfl, ⟨nd, rfl⟩⟩
                     refine ⟨_, rfl, ?_⟩
                     refine hK.out _ _ ⟨hHeld.1, hHeld.2.1, hHeld.2.2.1, hHeld.2.2.2.1, hHeld.2.2.2.2.1, ((HB.out.cell (World.block_lt_of_cell? w _ hw302_0)).trans hw302_0), hHeld.2.2.2.2.2.2.1, hHeld.2.2.2.2.2.2.2.1, hHeld.2.2.2.2.2.2.2.2.1, hHeld.2.2.2.2.2.2.2.2.2.1, hHeld.2.2.2.2.2.2.2.2.2.2.1, hHeld.2.2.2.2.2.2.2.2.2.2.2.1, hHeld.2.2.2.2.2.2.2.2.2.2.2.2.1, hHeld.2.2.2.2.2.2.2.2.2.2.2.2.2.1, hHeld.2.2.2.2.2.2.2.2.2.2.2.2.2.2.1, hHeld.2.2.2.2.2.2.2.2.2.2.2.2.2.2.2⟩ (fun hHeld => ?_)
                     clear hK K
                     refine norm_ (a' := ?_) ?_ ?_
                     rotate_left
                     ·show Act.put _ (some 129) _ = _
                      simp only [Act.put, List.setIfInBounds_toArray, List.set_cons_zero, List.set_cons_succ, i64_w, i32_w]
                      rfl
                     refine pure_ (i := 28) (N := some 130) (v := ?_) (a' := ?_) #[true,true,true,true,true,true,true,true,true,true,true,true,true,true,true,true,true,true,true,true,true,true,true,true,true,true,true,true,true,false,false,false,false,false,false,false,false,false,false,false] rfl rfl (any_of HT_.out (by kernel_rfl)) (fun _ _ _ h => h) (Or.inl ⟨by rfl, ?_⟩) ?_ ?_
                     rotate_left
                     ·intro w'
                      go_simp
                      with_reducible rfl
                     rotate_left
                     ·simp only [Act.put, List.setIfInBounds_toArray, List.set_cons_zero, List.set_cons_succ, i64_w, i32_w]
                      rfl
                     refine pure_ (i := 29) (N := some 131) (v := ?_) (a' := ?_) #[true,true,true,true,true,true,true,true,true,true,true,true,true,true,true,true,true,true,true,true,true,true,true,true,true,true,true,true,true,true,false,false,false,false,false,false,false,false,false,false] rfl rfl (any_of HT_.out (by kernel_rfl)) (fun _ _ _ h => h) (Or.inl ⟨by rfl, ?_⟩) ?_ ?_
                     rotate_left
                     ·intro w'
                      go_simp
                      with_reducible rfl
                     rotate_left
                     ·simp only [Act.put, List.setIfInBounds_toArray, List.set_cons_zero, List.set_cons_succ, i64_w, i32_w]
                      rfl
                     refine pure_ (i := 30) (N := some 132) (v := ?_) (a' := ?_) #[true,true,true,true,true,true,true,true,true,true,true,true,true,true,true,true,true,true,true,true,true,true,true,true,true,true,true,true,true,true,true,false,false,false,false,false,false,false,false,false] rfl rfl (any_of HT_.out (by kernel_rfl)) (fun _ _ _ h => h) (Or.inl ⟨by rfl, ?_⟩) ?_ ?_
                     rotate_left
                     ·intro w'
                      go_simp
                      with_reducible rfl
                     rotate_left
                     ·simp only [Act.put, List.setIfInBounds_toArray, List.set_cons_zero, List.set_cons_succ, i64_w, i32_w]
                      rfl
                     refine pure_ (i := 31) (N := some 133) (v := ?_) (a' := ?_) #[true,true,true,true,true,true,true,true,true,true,true,true,true,true,true,true,true,true,true,true,true,true,true,true,true,true,true,true,true,true,true,true,false,false,false,false,false,false,false,false] rfl rfl (any_of HT_.out (by kernel_rfl)) (fun _ _ _ h => h) (Or.inl ⟨by rfl, ?_⟩) ?_ ?_
                     rotate_left
                     ·intro w'
                      go_simp
                      with_reducible rfl
                     rotate_left
                     ·simp only [Act.put, List.setIfInBounds_toArray, List.set_cons_zero, List.set_cons_succ, i64_w, i32_w]
                      rfl
                     refine pure_ (i := 32) (N := some 134) (v := ?_) (a' := ?_) #[true,true,true,true,true,true,true,true,true,true,true,true,true,true,true,true,true,true,true,true,true,true,true,true,true,true,true,true,true,true,true,true,true,false,false,false,false,false,false,false] rfl rfl (any_of HT_.out (by kernel_rfl)) (fun _ _ _ h => h) (Or.inl ⟨by rfl, ?_⟩) ?_ ?_
                     rotate_left
                     ·intro w'
                      go_simp
                      with_reducible rfl
                     rotate_left
                     ·simp only [Act.put, List.setIfInBounds_toArray, List.set_cons_zero, List.set_cons_succ, i64_w, i32_w]
                      rfl
                     refine pure_ (i := 33) (N := some 135) (v := ?_) (a' := ?_) #[true,true,true,true,true,true,true,true,true,true,true,true,true,true,true,true,true,true,true,true,true,true,true,true,true,true,true,true,true,true,true,true,true,true,false,false,false,false,false,false] rfl rfl (any_of HT_.out (by kernel_rfl)) (fun _ _ _ h => h) (Or.inl ⟨by rfl, ?_⟩) ?_ ?_
                     rotate_left
                     ·intro w'
                      go_simp
                      with_reducible rfl
                     rotate_left
                     ·simp only [Act.put, List.setIfInBounds_toArray, List.set_cons_zero, List.set_cons_succ, i64_w, i32_w]
                      rfl
                     refine pure_ (i := 35) (N := some 137) (v := ?_) (a' := ?_) #[true,true,true,true,true,true,true,true,true,true,true,true,true,true,true,true,true,true,true,true,true,true,true,true,true,true,true,true,true,true,true,true,true,true,false,true,false,false,false,false] rfl rfl (any_of HT_.out (by kernel_rfl)) (fun _ _ _ h => h) (Or.inl ⟨by rfl, ?_⟩) ?_ ?_
                     rotate_left
                     ·intro w'
                      go_simp
                      with_reducible rfl
                     rotate_left
                     ·simp only [Act.put, List.setIfInBounds_toArray, List.set_cons_zero, List.set_cons_succ, i64_w, i32_w]
                      rfl
                     refine pure_ (i := 36) (N := some 138) (v := ?_) (a' := ?_) #[true,true,true,true,true,true,true,true,true,true,true,true,true,true,true,true,true,true,true,true,true,true,true,true,true,true,true,true,true,true,true,true,true,true,false,true,true,false,false,false] rfl rfl (any_of HT_.out (by kernel_rfl)) (fun _ _ _ h => h) (Or.inl ⟨by rfl, ?_⟩) ?_ ?_
                     rotate_left
                     ·intro w'
                      go_simp
                      with_reducible rfl
                     rotate_left
                     ·simp only [Act.put, List.setIfInBounds_toArray, List.set_cons_zero, List.set_cons_succ, i64_w, i32_w]
                      rfl
                     refine pure_ (i := 37) (N := some 139) (v := ?_) (a' := ?_) #[true,true,true,true,true,true,true,true,true,true,true,true,true,true,true,true,true,true,true,true,true,true,true,true,true,true,true,true,true,true,true,true,true,true,false,true,true,true,false,false] rfl rfl (any_of HT_.out (by kernel_rfl)) (fun _ _ _ h => h) (Or.inl ⟨by rfl, ?_⟩) ?_ ?_
                     rotate_left
                     ·intro w'
                      go_simp
                      with_reducible rfl
                     rotate_left
                     ·simp only [Act.put, List.setIfInBounds_toArray, List.set_cons_zero, List.set_cons_succ, i64_w, i32_w]
                      rfl
                     refine take_ (i := 34) (N := some 136) (v := ?_) (a' := ?_) #[true,true,true,true,true,true,true,true,true,true,true,true,true,true,true,true,true,true,true,true,true,true,true,true,true,true,true,true,true,true,true,true,true,true,true,true,true,true,false,false] rfl rfl (take_ofW HT_.out HW_.out (by kernel_rfl)) (fun _ _ _ h => h) (Or.inl ⟨by rfl, ?_⟩) hHeld ?_ ?_
                     rotate_left
                     ·rintro w' ⟨s0, s1, s2, s3, s4, s5, s6, s7, s8, s9, s10, s11, s12, s13, s14, s15⟩
                      go_simp
                      with_reducible rfl
                     rotate_left
                     ·simp only [Act.put, List.setIfInBounds_toArray, List.set_cons_zero, List.set_cons_succ, i64_w, i32_w]
                      rfl
                     refine pure_ (i := 38) (N := some 140) (v := ?_) (a' := ?_) #[true,true,true,true,true,true,true,true,true,true,true,true,true,true,true,true,true,true,true,true,true,true,true,true,true,true,true,true,true,true,true,true,true,true,true,true,true,true,true,false] rfl rfl (any_of HT_.out (by kernel_rfl)) (fun _ _ _ h => h) (Or.inl ⟨by rfl, ?_⟩) ?_ ?_
                     rotate_left
                     ·intro w'
                      go_simp
                      with_reducible rfl
                     rotate_left
                     ·simp only [Act.put, List.setIfInBounds_toArray, List.set_cons_zero, List.set_cons_succ, i64_w, i32_w]
                      rfl
                     refine pure_ (i := 39) (N := some 141) (v := ?_) (a' := ?_) #[true,true,true,true,true,true,true,true,true,true,true,true,true,true,true,true,true,true,true,true,true,true,true,true,true,true,true,true,true,true,true,true,true,true,true,true,true,true,true,true] rfl rfl (any_of HT_.out (by kernel_rfl)) (fun _ _ _ h => h) (Or.inl ⟨by rfl, ?_⟩) ?_ ?_
                     rotate_left
                     ·intro w'
                      go_simp
                      with_reducible rfl
                     rotate_left
                     ·simp only [Act.put, List.setIfInBounds_toArray, List.set_cons_zero, List.set_cons_succ, i64_w, i32_w]
                      rfl
                     refine done_ (done_of HT_.out (by kernel_rfl)) ?_
                     try go_wp2
                     go_meet
                     case rel => exact ⟨_, ((((rd_T32 t296 3).f1) != ((x6_3.length : Int) == 0))), (by first | rfl | (simp; done) | (rw [prx_ne]; first | done | rfl) | (simp [*]; done)), H', ⟨by have := HJ4.out; have := HJ22.out; have := HK3.out; first | omega | exact Nat.le_refl _⟩, ⟨by (with_reducible repeat (first | apply Kd.R_alloc | apply Kd.R_drewN | apply Kd.R_drew)); exact HO_6.out⟩, ⟨by (with_reducible repeat (first | apply Kd.S_alloc | apply Kd.S_drewN | apply Kd.S_drew)); exact Kd.S_mono HO300.out (fun _ hk => hk.2)⟩, ⟨by repeat (first | (with_reducible first | exact HB.out | apply below_alloc | apply pw_below_drewN | apply below_drew1) | exact HB.out)⟩⟩
                    ·rw [if_neg c64] at H
                     exact absurd H (by simp)
                   ·replace c63 := Bool.eq_false_iff.mpr c63
                    subst c63
                    have H1 : (laws_FnTrailerNames.j4 k3 x6_3 t296 true) = some r := by rw [if_neg (show ¬ (false = true) by decide)] at H; exact H
                    clear H
                    have H := H1
                    clear H1
                    have H' := Aside0.mk H
                    clear H
                    try go_wp2
                    have n0_ := Aside0.mk (Kd.R_drew HO_6.out)
                    have n1_ := Aside0.mk (Kd.R_drew HO295.out)
                    have n2_ := Aside0.mk (Kd.S_drew HO300.out)
                    have n3_ := Aside0.mk (below_drew1 HB.out)
                    clear HO_6
                    clear HO295
                    clear HO300
                    clear HB
                    have HO_6 := n0_
                    have HO295 := n1_
                    have HO300 := n2_
                    have HB := n3_
                    clear n0_ n1_ n2_ n3_
                    obtain ⟨Ao70, co70, eo70⟩ := Kd.S_slice HO300.out
                    (first | subst eo70 | (injection eo70 with f1_ f2_ f3_; have f4_ := f1_.symm; have f5_ := f3_.symm; clear f1_ f2_ f3_; subst f4_; subst f5_))
                    have p301 : 0 ≤ (0 : Int) := (by omega)
                    have q301 : 0 < (t296.length : Int) := of_decide_eq_true (by first | (with_reducible assumption) | assumption)
                    obtain ⟨ad301, A301_3, c301_3, A301_4, c301_4, e301, hx301_0, hx301_1, hx301_2, hx301_3, hx301_4, hl301_3, hi301_3, hl301_4, hi301_4⟩ := at_T32 (Kd.S_reads' HO300.out).2.2 0 p301 q301
                    cases e301
                    obtain ⟨ce301, hce301, hMe301, hcc301⟩ := Kd.S_get HO300.out z32 0 p301 (by first | exact q301 | exact of_decide_eq_true (by first | (with_reducible assumption) | assumption) | (have e_ := (Kd.S_reads' HO300.out).1; omega))
                    obtain ⟨ve301_3, ve301_4, rfl, ge301_3, ge301_4⟩ := k32_openM hMe301
                    have hv301_3 := hcc301 3 _ rfl
                    rw [add_field _ _ 3 (by omega)] at hv301_3
                    replace hv301_3 := Option.some.inj (hv301_3.symm.trans hx301_3)
                    rw [hv301_3] at ge301_3
                    have HL301_3 := Aside0.mk (show Kd.R Kd.string 9 _ _ _ _ ((rd_T32 t296 0).f3) from ge301_3)
                    clear hv301_3 ge301_3
                    have hv301_4 := hcc301 4 _ rfl
                    rw [add_field _ _ 4 (by omega)] at hv301_4
                    replace hv301_4 := Option.some.inj (hv301_4.symm.trans hx301_4)
                    rw [hv301_4] at ge301_4
                    have HL301_4 := Aside0.mk (show Kd.R k34 34 _ _ _ _ ((rd_T32 t296 0).f4) from ge301_4)
                    clear hv301_4 ge301_4
                    clear hcc301 hce301
                    have qi301 : (0 < t296.length) = True := eq_true (by omega)
                    (try rw [show ((0 : Int)).toNat = 0 from rfl] at hx301_0)
                    (try rw [show 0 * 5 = 0 from rfl] at hx301_0)
                    (try rw [Addr.add_zero'] at hx301_0)
                    (try rw [show ((0 : Int)).toNat = 0 from rfl] at hx301_1)
                    (try rw [show 0 * 5 = 0 from rfl] at hx301_1)
                    (try rw [Addr.add_zero'] at hx301_1)
                    (try rw [show ((0 : Int)).toNat = 0 from rfl] at hx301_2)
                    (try rw [show 0 * 5 = 0 from rfl] at hx301_2)
                    (try rw [Addr.add_zero'] at hx301_2)
                    (try rw [show ((0 : Int)).toNat = 0 from rfl] at hx301_3)
                    (try rw [show 0 * 5 = 0 from rfl] at hx301_3)
                    (try rw [Addr.add_zero'] at hx301_3)
                    (try rw [show ((0 : Int)).toNat = 0 from rfl] at hx301_4)
                    (try rw [show 0 * 5 = 0 from rfl] at hx301_4)
                    (try rw [Addr.add_zero'] at hx301_4)
                    have HR301_3 := Aside0.mk hi301_3
                    have HC301_3 := Aside0.mk hl301_3
                    clear hi301_3 hl301_3
                    have HR301_4 := Aside0.mk hi301_4
                    have HC301_4 := Aside0.mk hl301_4
                    clear hi301_4 hl301_4
                    replace p301 := eq_true p301
                    replace q301 := eq_true q301
                    have p302 : 0 ≤ ((ji53) : Int) := of_decide_eq_true (by first | (with_reducible assumption) | assumption)
                    have q302 : (ji53) < (l0.length : Int) := of_decide_eq_true (by first | (with_reducible assumption) | assumption)
                    obtain ⟨ad302, e302, hx302_0⟩ := Kd.at_string HR0.out (ji53) p302 q302
                    have hw302_0 := hx302_0
                    cases e302
                    replace hx302_0 := (HB.out.cell (World.block_lt_of_cell? w _ hx302_0)).trans hx302_0
                    replace p302 := eq_true p302
                    replace q302 := eq_true q302
                    have p304 : 0 ≤ (1 : Int) := (by omega)
                    have q304 : 1 < (t296.length : Int) := of_decide_eq_true (by first | (with_reducible assumption) | assumption)
                    obtain ⟨ad304, A304_3, c304_3, A304_4, c304_4, e304, hx304_0, hx304_1, hx304_2, hx304_3, hx304_4, hl304_3, hi304_3, hl304_4, hi304_4⟩ := at_T32 (Kd.S_reads' HO300.out).2.2 1 p304 q304
                    obtain rfl : ad301 = ad304 := (by injection e304)
                    obtain ⟨ce304, hce304, hMe304, hcc304⟩ := Kd.S_get HO300.out z32 1 p304 (by first | exact q304 | exact of_decide_eq_true (by first | (with_reducible assumption) | assumption) | (have e_ := (Kd.S_reads' HO300.out).1; omega))
                    obtain ⟨ve304_3, ve304_4, rfl, ge304_3, ge304_4⟩ := k32_openM hMe304
                    have hv304_3 := hcc304 3 _ rfl
                    rw [add_field _ _ 3 (by omega)] at hv304_3
                    replace hv304_3 := Option.some.inj (hv304_3.symm.trans hx304_3)
                    rw [hv304_3] at ge304_3
                    have HL304_3 := Aside0.mk (show Kd.R Kd.string 9 _ _ _ _ ((rd_T32 t296 1).f3) from ge304_3)
                    clear hv304_3 ge304_3
                    have hv304_4 := hcc304 4 _ rfl
                    rw [add_field _ _ 4 (by omega)] at hv304_4
                    replace hv304_4 := Option.some.inj (hv304_4.symm.trans hx304_4)
                    rw [hv304_4] at ge304_4
                    have HL304_4 := Aside0.mk (show Kd.R k34 34 _ _ _ _ ((rd_T32 t296 1).f4) from ge304_4)
                    clear hv304_4 ge304_4
                    clear hcc304 hce304
                    (try simp only [show (1 : Int).toNat = 1 from rfl, Nat.reduceMul, Nat.reduceEqDiff, Go.Addr.add, ↓reduceIte] at hx304_0)
                    (try simp only [show (1 : Int).toNat = 1 from rfl, Nat.reduceMul, Nat.reduceEqDiff, Go.Addr.add, ↓reduceIte] at hx304_1)
                    (try simp only [show (1 : Int).toNat = 1 from rfl, Nat.reduceMul, Nat.reduceEqDiff, Go.Addr.add, ↓reduceIte] at hx304_2)
                    (try simp only [show (1 : Int).toNat = 1 from rfl, Nat.reduceMul, Nat.reduceEqDiff, Go.Addr.add, ↓reduceIte] at hx304_3)
                    (try simp only [show (1 : Int).toNat = 1 from rfl, Nat.reduceMul, Nat.reduceEqDiff, Go.Addr.add, ↓reduceIte] at hx304_4)
                    have qi304 : (1 < t296.length) = True := eq_true (by omega)
                    (try rw [show ((1 : Int)).toNat = 1 from rfl] at hx304_0)
                    (try rw [show 1 * 5 = 5 from rfl] at hx304_0)
                    (try rw [show ((1 : Int)).toNat = 1 from rfl] at hx304_1)
                    (try rw [show 1 * 5 = 5 from rfl] at hx304_1)
                    (try rw [show ((1 : Int)).toNat = 1 from rfl] at hx304_2)
                    (try rw [show 1 * 5 = 5 from rfl] at hx304_2)
                    (try rw [show ((1 : Int)).toNat = 1 from rfl] at hx304_3)
                    (try rw [show 1 * 5 = 5 from rfl] at hx304_3)
                    (try rw [show ((1 : Int)).toNat = 1 from rfl] at hx304_4)
                    (try rw [show 1 * 5 = 5 from rfl] at hx304_4)
                    have HR304_3 := Aside0.mk hi304_3
                    have HC304_3 := Aside0.mk hl304_3
                    clear hi304_3 hl304_3
                    have HR304_4 := Aside0.mk hi304_4
                    have HC304_4 := Aside0.mk hl304_4
                    clear hi304_4 hl304_4
                    replace p304 := eq_true p304
                    replace q304 := eq_true q304
                    refine start_ (n := 40) (S := fun w' => w'.cell? ad301 = some (.string ((rd_T32 t296 0).f0)) ∧ w'.cell? ⟨ad301.block, ad301.off + 1, none⟩ = some (.bool ((rd_T32 t296 0).f1)) ∧ w'.cell? ⟨ad301.block, ad301.off + 2, none⟩ = some (.int .i64 ((rd_T32 t296 0).f2)) ∧ w'.cell? ⟨ad301.block, ad301.off + 3, none⟩ = some (.slice A301_3 ((rd_T32 t296 0).f3).length c301_3) ∧ w'.cell? ⟨ad301.block, ad301.off + 4, none⟩ = some (.slice A301_4 ((rd_T32 t296 0).f4).length c301_4) ∧ w'.cell? (ad302.add ((ji53)).toNat) = some (.string (rdOf ByteArray.empty l0 (ji53))) ∧ w'.cell? ⟨ad301.block, ad301.off + 5, none⟩ = some (.string ((rd_T32 t296 1).f0)) ∧ w'.cell? ⟨ad301.block, ad301.off + 5 + 1, none⟩ = some (.bool ((rd_T32 t296 1).f1)) ∧ w'.cell? ⟨ad301.block, ad301.off + 5 + 2, none⟩ = some (.int .i64 ((rd_T32 t296 1).f2)) ∧ w'.cell? ⟨ad301.block, ad301.off + 5 + 3, none⟩ = some (.slice A304_3 ((rd_T32 t296 1).f3).length c304_3) ∧ w'.cell? ⟨ad301.block, ad301.off + 5 + 4, none⟩ = some (.slice A304_4 ((rd_T32 t296 1).f4).length c304_4)) (ds := []) #[false,false,false,false,false,false,false,false,false,false,false,false,false,false,false,false,false,false,false,false,false,false,false,false,false,false,false,false,false,false,false,false,false,false,false,false,false,false,false,false] (by kernel_rfl) rfl rfl ⟨hx301_0, hx301_1, hx301_2, hx301_3, hx301_4, ((HB.out.cell (World.block_lt_of_cell? w _ hw302_0)).trans hw302_0), hx304_0, hx304_1, hx304_2, hx304_3, hx304_4⟩ (fun hHeld => ?_); refine with_tabW laws_FnTrailerNames.tab18 laws_FnTrailerNames.bits18 (fun HT_ HW_ => ?_)
                    generalize w49.drew = w69 at HO_6 HO295 HO300 HB HL301_3 HL301_4 HL304_3 HL304_4 HR301_3 HR301_4 HR304_3 HR304_4 hx301_0 hx301_1 hx301_2 hx301_3 hx301_4 hx302_0 hx304_0 hx304_1 hx304_2 hx304_3 hx304_4 hHeld ⊢
                    refine pure_ (i := 0) (N := some 102) (v := ?_) (a' := ?_) #[true,false,false,false,false,false,false,false,false,false,false,false,false,false,false,false,false,false,false,false,false,false,false,false,false,false,false,false,false,false,false,false,false,false,false,false,false,false,false,false] rfl rfl (any_of HT_.out (by kernel_rfl)) (fun _ _ _ h => h) (Or.inl ⟨by rfl, ?_⟩) ?_ ?_
                    rotate_left
                    ·intro w'
                     go_simp
                     with_reducible rfl
                    rotate_left
                    ·simp only [Act.put, List.setIfInBounds_toArray, List.set_cons_zero, List.set_cons_succ, i64_w, i32_w]
                     rfl
                    refine pure_ (i := 1) (N := some 103) (v := ?_) (a' := ?_) #[true,true,false,false,false,false,false,false,false,false,false,false,false,false,false,false,false,false,false,false,false,false,false,false,false,false,false,false,false,false,false,false,false,false,false,false,false,false,false,false] rfl rfl (any_of HT_.out (by kernel_rfl)) (fun _ _ _ h => h) (Or.inl ⟨by rfl, ?_⟩) ?_ ?_
                    rotate_left
                    ·intro w'
                     go_simp
                     with_reducible rfl
                    rotate_left
                    ·simp only [Act.put, List.setIfInBounds_toArray, List.set_cons_zero, List.set_cons_succ, i64_w, i32_w]
                     rfl
                    refine pure_ (i := 2) (N := some 104) (v := ?_) (a' := ?_) #[true,true,true,false,false,false,false,false,false,false,false,false,false,false,false,false,false,false,false,false,false,false,false,false,false,false,false,false,false,false,false,false,false,false,false,false,false,false,false,false] rfl rfl (any_of HT_.out (by kernel_rfl)) (fun _ _ _ h => h) (Or.inl ⟨by rfl, ?_⟩) ?_ ?_
                    rotate_left
                    ·intro w'
                     go_simp
                     with_reducible rfl
                    rotate_left
                    ·simp only [Act.put, List.setIfInBounds_toArray, List.set_cons_zero, List.set_cons_succ, i64_w, i32_w]
                     rfl
                    refine pure_ (i := 3) (N := some 105) (v := ?_) (a' := ?_) #[true,true,true,true,false,false,false,false,false,false,false,false,false,false,false,false,false,false,false,false,false,false,false,false,false,false,false,false,false,false,false,false,false,false,false,false,false,false,false,false] rfl rfl (any_of HT_.out (by kernel_rfl)) (fun _ _ _ h => h) (Or.inl ⟨by rfl, ?_⟩) ?_ ?_
                    rotate_left
                    ·intro w'
                     go_simp
                     with_reducible rfl
                    rotate_left
                    ·simp only [Act.put, List.setIfInBounds_toArray, List.set_cons_zero, List.set_cons_succ, i64_w, i32_w]
                     rfl
                    refine pure_ (i := 4) (N := some 106) (v := ?_) (a' := ?_) #[true,true,true,true,true,false,false,false,false,false,false,false,false,false,false,false,false,false,false,false,false,false,false,false,false,false,false,false,false,false,false,false,false,false,false,false,false,false,false,false] rfl rfl (any_of HT_.out (by kernel_rfl)) (fun _ _ _ h => h) (Or.inl ⟨by rfl, ?_⟩) ?_ ?_
                    rotate_left
                    ·intro w'
                     go_simp
                     with_reducible rfl
                    rotate_left
                    ·simp only [Act.put, List.setIfInBounds_toArray, List.set_cons_zero, List.set_cons_succ, i64_w, i32_w]
                     rfl
                    refine pure_ (i := 5) (N := some 107) (v := ?_) (a' := ?_) #[true,true,true,true,true,true,false,false,false,false,false,false,false,false,false,false,false,false,false,false,false,false,false,false,false,false,false,false,false,false,false,false,false,false,false,false,false,false,false,false] rfl rfl (any_of HT_.out (by kernel_rfl)) (fun _ _ _ h => h) (Or.inl ⟨by rfl, ?_⟩) ?_ ?_
                    rotate_left
                    ·intro w'
                     go_simp
                     with_reducible rfl
                    rotate_left
                    ·simp only [Act.put, List.setIfInBounds_toArray, List.set_cons_zero, List.set_cons_succ, i64_w, i32_w]
                     rfl
                    refine pure_ (i := 6) (N := some 108) (v := ?_) (a' := ?_) #[true,true,true,true,true,true,true,false,false,false,false,false,false,false,false,false,false,false,false,false,false,false,false,false,false,false,false,false,false,false,false,false,false,false,false,false,false,false,false,false] rfl rfl (any_of HT_.out (by kernel_rfl)) (fun _ _ _ h => h) (Or.inl ⟨by rfl, ?_⟩) ?_ ?_
                    rotate_left
                    ·intro w'
                     go_simp
                     with_reducible rfl
                    rotate_left
                    ·simp only [Act.put, List.setIfInBounds_toArray, List.set_cons_zero, List.set_cons_succ, i64_w, i32_w]
                     rfl
                    refine pure_ (i := 7) (N := some 109) (v := ?_) (a' := ?_) #[true,true,true,true,true,true,true,true,false,false,false,false,false,false,false,false,false,false,false,false,false,false,false,false,false,false,false,false,false,false,false,false,false,false,false,false,false,false,false,false] rfl rfl (any_of HT_.out (by kernel_rfl)) (fun _ _ _ h => h) (Or.inl ⟨by rfl, ?_⟩) ?_ ?_
                    rotate_left
                    ·intro w'
                     go_simp
                     with_reducible rfl
                    rotate_left
                    ·simp only [Act.put, List.setIfInBounds_toArray, List.set_cons_zero, List.set_cons_succ, i64_w, i32_w]
                     rfl
                    refine pure_ (i := 8) (N := some 110) (v := ?_) (a' := ?_) #[true,true,true,true,true,true,true,true,true,false,false,false,false,false,false,false,false,false,false,false,false,false,false,false,false,false,false,false,false,false,false,false,false,false,false,false,false,false,false,false] rfl rfl (any_of HT_.out (by kernel_rfl)) (fun _ _ _ h => h) (Or.inl ⟨by rfl, ?_⟩) ?_ ?_
                    rotate_left
                    ·intro w'
                     go_simp
                     with_reducible rfl
                    rotate_left
                    ·simp only [Act.put, List.setIfInBounds_toArray, List.set_cons_zero, List.set_cons_succ, i64_w, i32_w]
                     rfl
                    refine pure_ (i := 9) (N := some 111) (v := ?_) (a' := ?_) #[true,true,true,true,true,true,true,true,true,true,false,false,false,false,false,false,false,false,false,false,false,false,false,false,false,false,false,false,false,false,false,false,false,false,false,false,false,false,false,false] rfl rfl (any_of HT_.out (by kernel_rfl)) (fun _ _ _ h => h) (Or.inl ⟨by rfl, ?_⟩) ?_ ?_
                    rotate_left
                    ·intro w'
                     go_simp
                     with_reducible rfl
                    rotate_left
                    ·simp only [Act.put, List.setIfInBounds_toArray, List.set_cons_zero, List.set_cons_succ, i64_w, i32_w]
                     rfl
                    refine pure_ (i := 10) (N := some 112) (v := ?_) (a' := ?_) #[true,true,true,true,true,true,true,true,true,true,true,false,false,false,false,false,false,false,false,false,false,false,false,false,false,false,false,false,false,false,false,false,false,false,false,false,false,false,false,false] rfl rfl (any_of HT_.out (by kernel_rfl)) (fun _ _ _ h => h) (Or.inl ⟨by rfl, ?_⟩) ?_ ?_
                    rotate_left
                    ·intro w'
                     go_simp
                     with_reducible rfl
                    rotate_left
                    ·simp only [Act.put, List.setIfInBounds_toArray, List.set_cons_zero, List.set_cons_succ, i64_w, i32_w]
                     rfl
                    refine pure_ (i := 12) (N := some 114) (v := ?_) (a' := ?_) #[true,true,true,true,true,true,true,true,true,true,true,false,true,false,false,false,false,false,false,false,false,false,false,false,false,false,false,false,false,false,false,false,false,false,false,false,false,false,false,false] rfl rfl (any_of HT_.out (by kernel_rfl)) (fun _ _ _ h => h) (Or.inl ⟨by rfl, ?_⟩) ?_ ?_
                    rotate_left
                    ·intro w'
                     go_simp
                     with_reducible rfl
                    rotate_left
                    ·simp only [Act.put, List.setIfInBounds_toArray, List.set_cons_zero, List.set_cons_succ, i64_w, i32_w]
                     rfl
                    refine pure_ (i := 13) (N := some 115) (v := ?_) (a' := ?_) #[true,true,true,true,true,true,true,true,true,true,true,false,true,true,false,false,false,false,false,false,false,false,false,false,false,false,false,false,false,false,false,false,false,false,false,false,false,false,false,false] rfl rfl (any_of HT_.out (by kernel_rfl)) (fun _ _ _ h => h) (Or.inl ⟨by rfl, ?_⟩) ?_ ?_
                    rotate_left
                    ·intro w'
                     go_simp
                     with_reducible rfl
                    rotate_left
                    ·simp only [Act.put, List.setIfInBounds_toArray, List.set_cons_zero, List.set_cons_succ, i64_w, i32_w]
                     rfl
                    refine pure_ (i := 14) (N := some 116) (v := ?_) (a' := ?_) #[true,true,true,true,true,true,true,true,true,true,true,false,true,true,true,false,false,false,false,false,false,false,false,false,false,false,false,false,false,false,false,false,false,false,false,false,false,false,false,false] rfl rfl (any_of HT_.out (by kernel_rfl)) (fun _ _ _ h => h) (Or.inl ⟨by rfl, ?_⟩) ?_ ?_
                    rotate_left
                    ·intro w'
                     go_simp
                     with_reducible rfl
                    rotate_left
                    ·simp only [Act.put, List.setIfInBounds_toArray, List.set_cons_zero, List.set_cons_succ, i64_w, i32_w]
                     rfl
                    refine pure_ (i := 15) (N := some 117) (v := ?_) (a' := ?_) #[true,true,true,true,true,true,true,true,true,true,true,false,true,true,true,true,false,false,false,false,false,false,false,false,false,false,false,false,false,false,false,false,false,false,false,false,false,false,false,false] rfl rfl (any_of HT_.out (by kernel_rfl)) (fun _ _ _ h => h) (Or.inl ⟨by rfl, ?_⟩) ?_ ?_
                    rotate_left
                    ·intro w'
                     go_simp
                     with_reducible rfl
                    rotate_left
                    ·simp only [Act.put, List.setIfInBounds_toArray, List.set_cons_zero, List.set_cons_succ, i64_w, i32_w]
                     rfl
                    refine pure_ (i := 16) (N := some 118) (v := ?_) (a' := ?_) #[true,true,true,true,true,true,true,true,true,true,true,false,true,true,true,true,true,false,false,false,false,false,false,false,false,false,false,false,false,false,false,false,false,false,false,false,false,false,false,false] rfl rfl (any_of HT_.out (by kernel_rfl)) (fun _ _ _ h => h) (Or.inl ⟨by rfl, ?_⟩) ?_ ?_
                    rotate_left
                    ·intro w'
                     go_simp
                     with_reducible rfl
                    rotate_left
                    ·simp only [Act.put, List.setIfInBounds_toArray, List.set_cons_zero, List.set_cons_succ, i64_w, i32_w]
                     rfl
                    refine take_ (i := 11) (N := some 113) (v := ?_) (a' := ?_) #[true,true,true,true,true,true,true,true,true,true,true,true,true,true,true,true,true,false,false,false,false,false,false,false,false,false,false,false,false,false,false,false,false,false,false,false,false,false,false,false] rfl rfl (take_ofW HT_.out HW_.out (by kernel_rfl)) (fun _ _ _ h => h) (Or.inl ⟨by rfl, ?_⟩) hHeld ?_ ?_
                    rotate_left
                    ·rintro w' ⟨s0, s1, s2, s3, s4, s5, s6, s7, s8, s9, s10⟩
                     go_simp
                     with_reducible rfl
                    rotate_left
                    ·simp only [Act.put, List.setIfInBounds_toArray, List.set_cons_zero, List.set_cons_succ, i64_w, i32_w]
                     rfl
                    refine take_ (i := 17) (N := some 119) (v := ?_) (a' := ?_) #[true,true,true,true,true,true,true,true,true,true,true,true,true,true,true,true,true,true,false,false,false,false,false,false,false,false,false,false,false,false,false,false,false,false,false,false,false,false,false,false] rfl rfl (take_ofW HT_.out HW_.out (by kernel_rfl)) (fun _ _ _ h => h) (Or.inl ⟨by rfl, ?_⟩) hHeld ?_ ?_
                    rotate_left
                    ·rintro w' ⟨s0, s1, s2, s3, s4, s5, s6, s7, s8, s9, s10⟩
                     go_simp
                     with_reducible rfl
                    rotate_left
                    ·simp only [Act.put, List.setIfInBounds_toArray, List.set_cons_zero, List.set_cons_succ, i64_w, i32_w]
                     rfl
                    refine one_ (i := 18) (N := some 120) #[true,true,true,true,true,true,true,true,true,true,true,true,true,true,true,true,true,true,true,false,false,false,false,false,false,false,false,false,false,false,false,false,false,false,false,false,false,false,false,false] rfl rfl (one_of HT_.out (by kernel_rfl)) (by decide) (fun K hK => ?_)
                    refine goes_ Try.func11 (by kernel_rfl) rfl #[.string (rdOf ByteArray.empty l0 (ji53))] (by rfl) rfl rfl (by (try simp only [List.map_toArray, List.map_cons, List.map_nil]); first | done | (simp only [hji53]; rfl) | rfl | (simp only [List.length_drop, List.length_take]; rfl)) ?_
                    with_reducible refine (laws_forbidden.calls (rdOf ByteArray.empty l0 (ji53)) t303 _ A56.out).mono ?_
                    rintro e w71 ⟨rfl, hb⟩
                    have HS0_ := (hb.cell (World.block_lt_of_cell? _ _ (hHeld.1))).trans (hHeld.1)
                    have HS1_ := (hb.cell (World.block_lt_of_cell? _ _ (hHeld.2.1))).trans (hHeld.2.1)
                    have HS2_ := (hb.cell (World.block_lt_of_cell? _ _ (hHeld.2.2.1))).trans (hHeld.2.2.1)
                    have HS3_ := (hb.cell (World.block_lt_of_cell? _ _ (hHeld.2.2.2.1))).trans (hHeld.2.2.2.1)
                    have HS4_ := (hb.cell (World.block_lt_of_cell? _ _ (hHeld.2.2.2.2.1))).trans (hHeld.2.2.2.2.1)
                    have HS6_ := (hb.cell (World.block_lt_of_cell? _ _ (hHeld.2.2.2.2.2.2.1))).trans (hHeld.2.2.2.2.2.2.1)
                    have HS7_ := (hb.cell (World.block_lt_of_cell? _ _ (hHeld.2.2.2.2.2.2.2.1))).trans (hHeld.2.2.2.2.2.2.2.1)
                    have HS8_ := (hb.cell (World.block_lt_of_cell? _ _ (hHeld.2.2.2.2.2.2.2.2.1))).trans (hHeld.2.2.2.2.2.2.2.2.1)
                    have HS9_ := (hb.cell (World.block_lt_of_cell? _ _ (hHeld.2.2.2.2.2.2.2.2.2.1))).trans (hHeld.2.2.2.2.2.2.2.2.2.1)
                    have HS10_ := (hb.cell (World.block_lt_of_cell? _ _ (hHeld.2.2.2.2.2.2.2.2.2.2))).trans (hHeld.2.2.2.2.2.2.2.2.2.2)
                    refine ⟨_, rfl, ?_⟩
                    (try (have nx_ := Aside0.mk (Kd.C_below (by first | (with_reducible exact HR304_4.out) | (with_reducible exact Kd.C_drewN HR304_4.out _) | (with_reducible exact Kd.C_drew HR304_4.out) | (with_reducible exact Kd.C_alloc HR304_4.out _)) hb); clear HR304_4; have HR304_4 := nx_; clear nx_))
                    have n0_ := Aside0.mk (Kd.R_below (by (with_reducible repeat (first | apply Kd.R_alloc | apply Kd.R_drewN | apply Kd.R_drew)); exact HO_6.out) hb)
                    have n1_ := Aside0.mk (Kd.R_below (by (with_reducible repeat (first | apply Kd.R_alloc | apply Kd.R_drewN | apply Kd.R_drew)); exact HO295.out) hb)
                    have n2_ := Aside0.mk (Kd.S_below (by (with_reducible repeat (first | apply Kd.S_alloc | apply Kd.S_drewN | apply Kd.S_drew)); exact HO300.out) hb)
                    have n3_ := Aside0.mk (Kd.R_below (by (with_reducible repeat (first | apply Kd.R_alloc | apply Kd.R_drewN | apply Kd.R_drew)); exact HL301_3.out) hb)
                    have n4_ := Aside0.mk (Kd.R_below (by (with_reducible repeat (first | apply Kd.R_alloc | apply Kd.R_drewN | apply Kd.R_drew)); exact HL301_4.out) hb)
                    have n5_ := Aside0.mk (Kd.C_below (by first | (with_reducible exact HR301_3.out) | (with_reducible exact Kd.C_drewN HR301_3.out _) | (with_reducible exact Kd.C_drew HR301_3.out) | (with_reducible exact Kd.C_alloc HR301_3.out _) | repeat (first | (with_reducible exact HR301_3.out) | (with_reducible refine Kd.C_alloc ?_ _) | (with_reducible refine Kd.C_drewN ?_ _) | (with_reducible refine Kd.C_drew ?_) | exact HR301_3.out)) hb)
                    have n6_ := Aside0.mk (Kd.C_below (by first | (with_reducible exact HR301_4.out) | (with_reducible exact Kd.C_drewN HR301_4.out _) | (with_reducible exact Kd.C_drew HR301_4.out) | (with_reducible exact Kd.C_alloc HR301_4.out _) | repeat (first | (with_reducible exact HR301_4.out) | (with_reducible refine Kd.C_alloc ?_ _) | (with_reducible refine Kd.C_drewN ?_ _) | (with_reducible refine Kd.C_drew ?_) | exact HR301_4.out)) hb)
                    have n7_ := Aside0.mk (below_step (by repeat (first | (with_reducible first | exact HB.out | apply below_alloc | apply pw_below_drewN | apply below_drew1) | exact HB.out)) hb)
                    clear HO_6
                    clear HO295
                    clear HO300
                    clear HL301_3
                    clear HL301_4
                    clear HR301_3
                    clear HR301_4
                    clear HB
                    have HO_6 := n0_
                    have HO295 := n1_
                    have HO300 := n2_
                    have HL301_3 := n3_
                    have HL301_4 := n4_
                    have HR301_3 := n5_
                    have HR301_4 := n6_
                    have HB := n7_
                    clear n0_ n1_ n2_ n3_ n4_ n5_ n6_ n7_
                    (try clear hb)
                    (try clear hb2)
                    (try clear hk)
                    (try clear hi)
                    obtain ⟨Ao72, co72, eo72⟩ := Kd.R_slice HO_6.out
                    (first | subst eo72 | (injection eo72 with f1_ f2_ f3_; have f4_ := f1_.symm; have f5_ := f3_.symm; clear f1_ f2_ f3_; subst f4_; subst f5_))
                    refine hK.out _ _ ⟨HS0_, HS1_, HS2_, HS3_, HS4_, ((HB.out.cell (World.block_lt_of_cell? w _ hw302_0)).trans hw302_0), HS6_, HS7_, HS8_, HS9_, HS10_⟩ (fun hHeld => ?_)
                    clear hK K
                    refine norm_ (a' := ?_) ?_ ?_
                    rotate_left
                    ·show Act.put _ (some 120) _ = _
                     simp only [Act.put, List.setIfInBounds_toArray, List.set_cons_zero, List.set_cons_succ, i64_w, i32_w]
                     rfl
                    refine pure_ (i := 19) (N := some 121) (v := ?_) (a' := ?_) #[true,true,true,true,true,true,true,true,true,true,true,true,true,true,true,true,true,true,true,true,false,false,false,false,false,false,false,false,false,false,false,false,false,false,false,false,false,false,false,false] rfl rfl (any_of HT_.out (by kernel_rfl)) (fun _ _ _ h => h) (Or.inl ⟨by rfl, ?_⟩) ?_ ?_
                    rotate_left
                    ·intro w'
                     go_simp
                     with_reducible rfl
                    rotate_left
                    ·simp only [Act.put, List.setIfInBounds_toArray, List.set_cons_zero, List.set_cons_succ, i64_w, i32_w]
                     rfl
                    refine pure_ (i := 20) (N := some 122) (v := ?_) (a' := ?_) #[true,true,true,true,true,true,true,true,true,true,true,true,true,true,true,true,true,true,true,true,true,false,false,false,false,false,false,false,false,false,false,false,false,false,false,false,false,false,false,false] rfl rfl (any_of HT_.out (by kernel_rfl)) (fun _ _ _ h => h) (Or.inl ⟨by rfl, ?_⟩) ?_ ?_
                    rotate_left
                    ·intro w'
                     go_simp
                     with_reducible rfl
                    rotate_left
                    ·simp only [Act.put, List.setIfInBounds_toArray, List.set_cons_zero, List.set_cons_succ, i64_w, i32_w]
                     rfl
                    refine pure_ (i := 21) (N := some 123) (v := ?_) (a' := ?_) #[true,true,true,true,true,true,true,true,true,true,true,true,true,true,true,true,true,true,true,true,true,true,false,false,false,false,false,false,false,false,false,false,false,false,false,false,false,false,false,false] rfl rfl (any_of HT_.out (by kernel_rfl)) (fun _ _ _ h => h) (Or.inl ⟨by rfl, ?_⟩) ?_ ?_
                    rotate_left
                    ·intro w'
                     go_simp
                     with_reducible rfl
                    rotate_left
                    ·simp only [Act.put, List.setIfInBounds_toArray, List.set_cons_zero, List.set_cons_succ, i64_w, i32_w]
                     rfl
                    refine pure_ (i := 22) (N := some 124) (v := ?_) (a' := ?_) #[true,true,true,true,true,true,true,true,true,true,true,true,true,true,true,true,true,true,true,true,true,true,true,false,false,false,false,false,false,false,false,false,false,false,false,false,false,false,false,false] rfl rfl (any_of HT_.out (by kernel_rfl)) (fun _ _ _ h => h) (Or.inl ⟨by rfl, ?_⟩) ?_ ?_
                    rotate_left
                    ·intro w'
                     go_simp
                     with_reducible rfl
                    rotate_left
                    ·simp only [Act.put, List.setIfInBounds_toArray, List.set_cons_zero, List.set_cons_succ, i64_w, i32_w]
                     rfl
                    refine pure_ (i := 23) (N := some 125) (v := ?_) (a' := ?_) #[true,true,true,true,true,true,true,true,true,true,true,true,true,true,true,true,true,true,true,true,true,true,true,true,false,false,false,false,false,false,false,false,false,false,false,false,false,false,false,false] rfl rfl (any_of HT_.out (by kernel_rfl)) (fun _ _ _ h => h) (Or.inl ⟨by rfl, ?_⟩) ?_ ?_
                    rotate_left
                    ·intro w'
                     go_simp
                     with_reducible rfl
                    rotate_left
                    ·simp only [Act.put, List.setIfInBounds_toArray, List.set_cons_zero, List.set_cons_succ, i64_w, i32_w]
                     rfl
                    refine pure_ (i := 24) (N := some 126) (v := ?_) (a' := ?_) #[true,true,true,true,true,true,true,true,true,true,true,true,true,true,true,true,true,true,true,true,true,true,true,true,true,false,false,false,false,false,false,false,false,false,false,false,false,false,false,false] rfl rfl (any_of HT_.out (by kernel_rfl)) (fun _ _ _ h => h) (Or.inl ⟨by rfl, ?_⟩) ?_ ?_
                    rotate_left
                    ·intro w'
                     go_simp
                     with_reducible rfl
                    rotate_left
                    ·simp only [Act.put, List.setIfInBounds_toArray, List.set_cons_zero, List.set_cons_succ, i64_w, i32_w]
                     rfl
                    refine pure_ (i := 26) (N := some 128) (v := ?_) (a' := ?_) #[true,true,true,true,true,true,true,true,true,true,true,true,true,true,true,true,true,true,true,true,true,true,true,true,true,false,true,false,false,false,false,false,false,false,false,false,false,false,false,false] rfl rfl (any_of HT_.out (by kernel_rfl)) (fun _ _ _ h => h) (Or.inl ⟨by rfl, ?_⟩) ?_ ?_
                    rotate_left
                    ·intro w'
                     go_simp
                     with_reducible rfl
                    rotate_left
                    ·simp only [Act.put, List.setIfInBounds_toArray, List.set_cons_zero, List.set_cons_succ, i64_w, i32_w]
                     rfl
                    refine take_ (i := 25) (N := some 127) (v := ?_) (a' := ?_) #[true,true,true,true,true,true,true,true,true,true,true,true,true,true,true,true,true,true,true,true,true,true,true,true,true,true,true,false,false,false,false,false,false,false,false,false,false,false,false,false] rfl rfl (take_ofW HT_.out HW_.out (by kernel_rfl)) (fun _ _ _ h => h) (Or.inl ⟨by rfl, ?_⟩) hHeld ?_ ?_
                    rotate_left
                    ·rintro w' ⟨s0, s1, s2, s3, s4, s5, s6, s7, s8, s9, s10⟩
                     go_simp
                     with_reducible rfl
                    rotate_left
                    ·simp only [Act.put, List.setIfInBounds_toArray, List.set_cons_zero, List.set_cons_succ, i64_w, i32_w]
                     rfl
                    refine one_ (i := 27) (N := some 129) #[true,true,true,true,true,true,true,true,true,true,true,true,true,true,true,true,true,true,true,true,true,true,true,true,true,true,true,true,false,false,false,false,false,false,false,false,false,false,false,false] rfl rfl (one_of HT_.out (by kernel_rfl)) (by decide) (fun K hK => ?_)
                    refine goes_ Try.func14 (by kernel_rfl) rfl #[.slice A304_4 ((rd_T32 t296 1).f4).length c304_4, .slice Ao72 x6_3.length co72] (by rfl) rfl rfl (by (try simp only [List.map_toArray, List.map_cons, List.map_nil]); first | done | rfl | (simp only [List.length_drop, List.length_take]; rfl)) ?_
                    with_reducible refine (laws_samePairs.calls k3 _ _ ((rd_T32 t296 1).f4) _ _ x6_3 false _ ?side1 ?side2 ?side3 ?side4 A62.out).mono ?_
                    (case side1 => repeat (first | exact (by first | (with_reducible exact HR304_4.out) | (with_reducible exact Kd.C_drewN HR304_4.out _) | (with_reducible exact Kd.C_drew HR304_4.out) | (with_reducible exact Kd.C_alloc HR304_4.out _) | repeat (first | (with_reducible exact HR304_4.out) | (with_reducible refine Kd.C_alloc ?_ _) | (with_reducible refine Kd.C_drewN ?_ _) | (with_reducible refine Kd.C_drew ?_) | exact HR304_4.out)) | (with_reducible refine Kd.C_alloc ?_ _) | (with_reducible refine Kd.C_drewN ?_ _) | (with_reducible refine Kd.C_drew ?_)))
                    (case side2 => exact HC304_4.out)
                    (case side3 => repeat (first | exact (Kd.R_reads' HO_6.out).2.2 | (with_reducible refine Kd.C_alloc ?_ _) | (with_reducible refine Kd.C_drewN ?_ _) | (with_reducible refine Kd.C_drew ?_)))
                    (case side4 => exact (Kd.R_reads' HO_6.out).2.1)
                    rintro e w' ⟨rfl, ⟨nd, rfl⟩⟩
                    refine ⟨_, rfl, ?_⟩
                    refine hK.out _ _ ⟨hHeld.1, hHeld.2.1, hHeld.2.2.1, hHeld.2.2.2.1, hHeld.2.2.2.2.1, ((HB.out.cell (World.block_lt_of_cell? w _ hw302_0)).trans hw302_0), hHeld.2.2.2.2.2.2.1, hHeld.2.2.2.2.2.2.2.1, hHeld.2.2.2.2.2.2.2.2.1, hHeld.2.2.2.2.2.2.2.2.2.1, hHeld.2.2.2.2.2.2.2.2.2.2⟩ (fun hHeld => ?_)
                    clear hK K
                    refine norm_ (a' := ?_) ?_ ?_
                    rotate_left
                    ·show Act.put _ (some 129) _ = _
                     simp only [Act.put, List.setIfInBounds_toArray, List.set_cons_zero, List.set_cons_succ, i64_w, i32_w]
                     rfl
                    refine pure_ (i := 28) (N := some 130) (v := ?_) (a' := ?_) #[true,true,true,true,true,true,true,true,true,true,true,true,true,true,true,true,true,true,true,true,true,true,true,true,true,true,true,true,true,false,false,false,false,false,false,false,false,false,false,false] rfl rfl (any_of HT_.out (by kernel_rfl)) (fun _ _ _ h => h) (Or.inl ⟨by rfl, ?_⟩) ?_ ?_
                    rotate_left
                    ·intro w'
                     go_simp
                     with_reducible rfl
                    rotate_left
                    ·simp only [Act.put, List.setIfInBounds_toArray, List.set_cons_zero, List.set_cons_succ, i64_w, i32_w]
                     rfl
                    refine pure_ (i := 29) (N := some 131) (v := ?_) (a' := ?_) #[true,true,true,true,true,true,true,true,true,true,true,true,true,true,true,true,true,true,true,true,true,true,true,true,true,true,true,true,true,true,false,false,false,false,false,false,false,false,false,false] rfl rfl (any_of HT_.out (by kernel_rfl)) (fun _ _ _ h => h) (Or.inl ⟨by rfl, ?_⟩) ?_ ?_
                    rotate_left
                    ·intro w'
                     go_simp
                     with_reducible rfl
                    rotate_left
                    ·simp only [Act.put, List.setIfInBounds_toArray, List.set_cons_zero, List.set_cons_succ, i64_w, i32_w]
                     rfl
                    refine pure_ (i := 30) (N := some 132) (v := ?_) (a' := ?_) #[true,true,true,true,true,true,true,true,true,true,true,true,true,true,true,true,true,true,true,true,true,true,true,true,true,true,true,true,true,true,true,false,false,false,false,false,false,false,false,false] rfl rfl (any_of HT_.out (by kernel_rfl)) (fun _ _ _ h => h) (Or.inl ⟨by rfl, ?_⟩) ?_ ?_
                    rotate_left
                    ·intro w'
                     go_simp
                     with_reducible rfl
                    rotate_left
                    ·simp only [Act.put, List.setIfInBounds_toArray, List.set_cons_zero, List.set_cons_succ, i64_w, i32_w]
                     rfl
                    refine pure_ (i := 31) (N := some 133) (v := undef) (a' := ?_) #[true,true,true,true,true,true,true,true,true,true,true,true,true,true,true,true,true,true,true,true,true,true,true,true,true,true,true,true,true,true,true,true,false,false,false,false,false,false,false,false] rfl rfl (any_of HT_.out (by kernel_rfl)) (fun _ _ _ h => h) (Or.inr ⟨by rfl, rfl⟩) ?_ ?_
                    rotate_left
                    ·simp only [Act.put, List.setIfInBounds_toArray, List.set_cons_zero, List.set_cons_succ, i64_w, i32_w]
                     rfl
                    refine pure_ (i := 32) (N := some 134) (v := undef) (a' := ?_) #[true,true,true,true,true,true,true,true,true,true,true,true,true,true,true,true,true,true,true,true,true,true,true,true,true,true,true,true,true,true,true,true,true,false,false,false,false,false,false,false] rfl rfl (any_of HT_.out (by kernel_rfl)) (fun _ _ _ h => h) (Or.inr ⟨by rfl, rfl⟩) ?_ ?_
                    rotate_left
                    ·simp only [Act.put, List.setIfInBounds_toArray, List.set_cons_zero, List.set_cons_succ, i64_w, i32_w]
                     rfl
                    refine pure_ (i := 33) (N := some 135) (v := undef) (a' := ?_) #[true,true,true,true,true,true,true,true,true,true,true,true,true,true,true,true,true,true,true,true,true,true,true,true,true,true,true,true,true,true,true,true,true,true,false,false,false,false,false,false] rfl rfl (any_of HT_.out (by kernel_rfl)) (fun _ _ _ h => h) (Or.inr ⟨by rfl, rfl⟩) ?_ ?_
                    rotate_left
                    ·simp only [Act.put, List.setIfInBounds_toArray, List.set_cons_zero, List.set_cons_succ, i64_w, i32_w]
                     rfl
                    refine pure_ (i := 34) (N := some 136) (v := undef) (a' := ?_) #[true,true,true,true,true,true,true,true,true,true,true,true,true,true,true,true,true,true,true,true,true,true,true,true,true,true,true,true,true,true,true,true,true,true,true,false,false,false,false,false] rfl rfl (any_of HT_.out (by kernel_rfl)) (fun _ _ _ h => h) (Or.inr ⟨by rfl, rfl⟩) ?_ ?_
                    rotate_left
                    ·simp only [Act.put, List.setIfInBounds_toArray, List.set_cons_zero, List.set_cons_succ, i64_w, i32_w]
                     rfl
                    refine pure_ (i := 35) (N := some 137) (v := undef) (a' := ?_) #[true,true,true,true,true,true,true,true,true,true,true,true,true,true,true,true,true,true,true,true,true,true,true,true,true,true,true,true,true,true,true,true,true,true,true,true,false,false,false,false] rfl rfl (any_of HT_.out (by kernel_rfl)) (fun _ _ _ h => h) (Or.inr ⟨by rfl, rfl⟩) ?_ ?_
                    rotate_left
                    ·simp only [Act.put, List.setIfInBounds_toArray, List.set_cons_zero, List.set_cons_succ, i64_w, i32_w]
                     rfl
                    refine pure_ (i := 36) (N := some 138) (v := undef) (a' := ?_) #[true,true,true,true,true,true,true,true,true,true,true,true,true,true,true,true,true,true,true,true,true,true,true,true,true,true,true,true,true,true,true,true,true,true,true,true,true,false,false,false] rfl rfl (any_of HT_.out (by kernel_rfl)) (fun _ _ _ h => h) (Or.inr ⟨by rfl, rfl⟩) ?_ ?_
                    rotate_left
                    ·simp only [Act.put, List.setIfInBounds_toArray, List.set_cons_zero, List.set_cons_succ, i64_w, i32_w]
                     rfl
                    refine pure_ (i := 37) (N := some 139) (v := undef) (a' := ?_) #[true,true,true,true,true,true,true,true,true,true,true,true,true,true,true,true,true,true,true,true,true,true,true,true,true,true,true,true,true,true,true,true,true,true,true,true,true,true,false,false] rfl rfl (any_of HT_.out (by kernel_rfl)) (fun _ _ _ h => h) (Or.inr ⟨by rfl, rfl⟩) ?_ ?_
                    rotate_left
                    ·simp only [Act.put, List.setIfInBounds_toArray, List.set_cons_zero, List.set_cons_succ, i64_w, i32_w]
                     rfl
                    refine pure_ (i := 38) (N := some 140) (v := undef) (a' := ?_) #[true,true,true,true,true,true,true,true,true,true,true,true,true,true,true,true,true,true,true,true,true,true,true,true,true,true,true,true,true,true,true,true,true,true,true,true,true,true,true,false] rfl rfl (any_of HT_.out (by kernel_rfl)) (fun _ _ _ h => h) (Or.inr ⟨by rfl, rfl⟩) ?_ ?_
                    rotate_left
                    ·simp only [Act.put, List.setIfInBounds_toArray, List.set_cons_zero, List.set_cons_succ, i64_w, i32_w]
                     rfl
                    refine pure_ (i := 39) (N := some 141) (v := ?_) (a' := ?_) #[true,true,true,true,true,true,true,true,true,true,true,true,true,true,true,true,true,true,true,true,true,true,true,true,true,true,true,true,true,true,true,true,true,true,true,true,true,true,true,true] rfl rfl (any_of HT_.out (by kernel_rfl)) (fun _ _ _ h => h) (Or.inl ⟨by rfl, ?_⟩) ?_ ?_
                    rotate_left
                    ·intro w'
                     go_simp
                     with_reducible rfl
                    rotate_left
                    ·simp only [Act.put, List.setIfInBounds_toArray, List.set_cons_zero, List.set_cons_succ, i64_w, i32_w]
                     rfl
                    refine done_ (done_of HT_.out (by kernel_rfl)) ?_
                    try go_wp2
                    go_meet
                    case rel => exact ⟨_, (true), (by first | rfl | (simp; done) | (rw [prx_ne]; first | done | rfl) | (simp [*]; done)), H', ⟨by have := HJ4.out; have := HJ22.out; have := HK3.out; first | omega | exact Nat.le_refl _⟩, ⟨by (with_reducible repeat (first | apply Kd.R_alloc | apply Kd.R_drewN | apply Kd.R_drew)); exact HO_6.out⟩, ⟨by (with_reducible repeat (first | apply Kd.S_alloc | apply Kd.S_drewN | apply Kd.S_drew)); exact Kd.S_mono HO300.out (fun _ hk => hk.2)⟩, ⟨by repeat (first | (with_reducible first | exact HB.out | apply below_alloc | apply pw_below_drewN | apply below_drew1) | exact HB.out)⟩⟩
                  ·rw [if_neg c61] at H
                   exact absurd H (by simp)
                ·rw [if_neg c55] at H
                 exact absurd H (by simp)
               ·rw [if_neg c54] at H
                exact absurd H (by simp)
              ·rw [if_neg c52] at H
               exact absurd H (by simp)
             ·rw [if_neg c51] at H
              have c51b0 : ((t296.length : Int) == 4) = false := beq_eq_false_iff_ne.mpr c51
              have c51b1 : ((t296.length : Int) != 4) = true := bne_iff_ne.mpr c51
              (first | rw [c51b0] | (simp only [i64_w, i32_w]; rw [c51b0]) | skip)
              have H' := Aside0.mk H
              clear H
              try go_wp2
              have n0_ := Aside0.mk (Kd.R_drew HO_6.out)
              have n1_ := Aside0.mk (Kd.R_drew HO295.out)
              have n2_ := Aside0.mk (Kd.S_drew HO300.out)
              have n3_ := Aside0.mk (below_drew1 HB.out)
              clear HO_6
              clear HO295
              clear HO300
              clear HB
              have HO_6 := n0_
              have HO295 := n1_
              have HO300 := n2_
              have HB := n3_
              clear n0_ n1_ n2_ n3_
              obtain ⟨Ao74, co74, eo74⟩ := Kd.S_slice HO300.out
              (first | subst eo74 | (injection eo74 with f1_ f2_ f3_; have f4_ := f1_.symm; have f5_ := f3_.symm; clear f1_ f2_ f3_; subst f4_; subst f5_))
              refine start_ (n := 40) (S := fun w' => True) (ds := []) #[false,false,false,false,false,false,false,false,false,false,false,false,false,false,false,false,false,false,false,false,false,false,false,false,false,false,false,false,false,false,false,false,false,false,false,false,false,false,false,false] (by kernel_rfl) rfl rfl trivial (fun hHeld => ?_); refine with_tabW laws_FnTrailerNames.tab18 laws_FnTrailerNames.bits18 (fun HT_ HW_ => ?_)
              generalize w49.drew = w73 at HO_6 HO295 HO300 HB hHeld ⊢
              refine pure_ (i := 0) (N := some 102) (v := ?_) (a' := ?_) #[true,false,false,false,false,false,false,false,false,false,false,false,false,false,false,false,false,false,false,false,false,false,false,false,false,false,false,false,false,false,false,false,false,false,false,false,false,false,false,false] rfl rfl (any_of HT_.out (by kernel_rfl)) (fun _ _ _ h => h) (Or.inl ⟨by rfl, ?_⟩) ?_ ?_
              rotate_left
              ·intro w'
               go_simp
               with_reducible rfl
              rotate_left
              ·simp only [Act.put, List.setIfInBounds_toArray, List.set_cons_zero, List.set_cons_succ, i64_w, i32_w]
               rfl
              refine pure_ (i := 1) (N := some 103) (v := ?_) (a' := ?_) #[true,true,false,false,false,false,false,false,false,false,false,false,false,false,false,false,false,false,false,false,false,false,false,false,false,false,false,false,false,false,false,false,false,false,false,false,false,false,false,false] rfl rfl (any_of HT_.out (by kernel_rfl)) (fun _ _ _ h => h) (Or.inl ⟨by rfl, ?_⟩) ?_ ?_
              rotate_left
              ·intro w'
               go_simp
               with_reducible rfl
              rotate_left
              ·simp only [Act.put, List.setIfInBounds_toArray, List.set_cons_zero, List.set_cons_succ, i64_w, i32_w]
               rfl
              refine pure_ (i := 2) (N := some 104) (v := ?_) (a' := ?_) #[true,true,true,false,false,false,false,false,false,false,false,false,false,false,false,false,false,false,false,false,false,false,false,false,false,false,false,false,false,false,false,false,false,false,false,false,false,false,false,false] rfl rfl (any_of HT_.out (by kernel_rfl)) (fun _ _ _ h => h) (Or.inl ⟨by rfl, ?_⟩) ?_ ?_
              rotate_left
              ·intro w'
               go_simp
               with_reducible rfl
              rotate_left
              ·simp only [Act.put, List.setIfInBounds_toArray, List.set_cons_zero, List.set_cons_succ, i64_w, i32_w]
               rfl
              refine pure_ (i := 3) (N := some 105) (v := ?_) (a' := ?_) #[true,true,true,true,false,false,false,false,false,false,false,false,false,false,false,false,false,false,false,false,false,false,false,false,false,false,false,false,false,false,false,false,false,false,false,false,false,false,false,false] rfl rfl (any_of HT_.out (by kernel_rfl)) (fun _ _ _ h => h) (Or.inl ⟨by rfl, ?_⟩) ?_ ?_
              rotate_left
              ·intro w'
               go_simp
               with_reducible rfl
              rotate_left
              ·simp only [Act.put, List.setIfInBounds_toArray, List.set_cons_zero, List.set_cons_succ, i64_w, i32_w]
               rfl
              refine pure_ (i := 4) (N := some 106) (v := ?_) (a' := ?_) #[true,true,true,true,true,false,false,false,false,false,false,false,false,false,false,false,false,false,false,false,false,false,false,false,false,false,false,false,false,false,false,false,false,false,false,false,false,false,false,false] rfl rfl (any_of HT_.out (by kernel_rfl)) (fun _ _ _ h => h) (Or.inl ⟨by rfl, ?_⟩) ?_ ?_
              rotate_left
              ·intro w'
               go_simp
               with_reducible rfl
              rotate_left
              ·simp only [Act.put, List.setIfInBounds_toArray, List.set_cons_zero, List.set_cons_succ, i64_w, i32_w]
               rfl
              refine pure_ (i := 5) (N := some 107) (v := ?_) (a' := ?_) #[true,true,true,true,true,true,false,false,false,false,false,false,false,false,false,false,false,false,false,false,false,false,false,false,false,false,false,false,false,false,false,false,false,false,false,false,false,false,false,false] rfl rfl (any_of HT_.out (by kernel_rfl)) (fun _ _ _ h => h) (Or.inl ⟨by rfl, ?_⟩) ?_ ?_
              rotate_left
              ·intro w'
               go_simp
               with_reducible rfl
              rotate_left
              ·simp only [Act.put, List.setIfInBounds_toArray, List.set_cons_zero, List.set_cons_succ, i64_w, i32_w]
               rfl
              refine pure_ (i := 6) (N := some 108) (v := ?_) (a' := ?_) #[true,true,true,true,true,true,true,false,false,false,false,false,false,false,false,false,false,false,false,false,false,false,false,false,false,false,false,false,false,false,false,false,false,false,false,false,false,false,false,false] rfl rfl (any_of HT_.out (by kernel_rfl)) (fun _ _ _ h => h) (Or.inl ⟨by rfl, ?_⟩) ?_ ?_
              rotate_left
              ·intro w'
               go_simp
               with_reducible rfl
              rotate_left
              ·simp only [Act.put, List.setIfInBounds_toArray, List.set_cons_zero, List.set_cons_succ, i64_w, i32_w]
               rfl
              refine pure_ (i := 7) (N := some 109) (v := ?_) (a' := ?_) #[true,true,true,true,true,true,true,true,false,false,false,false,false,false,false,false,false,false,false,false,false,false,false,false,false,false,false,false,false,false,false,false,false,false,false,false,false,false,false,false] rfl rfl (any_of HT_.out (by kernel_rfl)) (fun _ _ _ h => h) (Or.inl ⟨by rfl, ?_⟩) ?_ ?_
              rotate_left
              ·intro w'
               go_simp
               with_reducible rfl
              rotate_left
              ·simp only [Act.put, List.setIfInBounds_toArray, List.set_cons_zero, List.set_cons_succ, i64_w, i32_w]
               rfl
              refine pure_ (i := 8) (N := some 110) (v := undef) (a' := ?_) #[true,true,true,true,true,true,true,true,true,false,false,false,false,false,false,false,false,false,false,false,false,false,false,false,false,false,false,false,false,false,false,false,false,false,false,false,false,false,false,false] rfl rfl (any_of HT_.out (by kernel_rfl)) (fun _ _ _ h => h) (Or.inr ⟨by rfl, rfl⟩) ?_ ?_
              rotate_left
              ·simp only [Act.put, List.setIfInBounds_toArray, List.set_cons_zero, List.set_cons_succ, i64_w, i32_w]
               rfl
              refine pure_ (i := 9) (N := some 111) (v := undef) (a' := ?_) #[true,true,true,true,true,true,true,true,true,true,false,false,false,false,false,false,false,false,false,false,false,false,false,false,false,false,false,false,false,false,false,false,false,false,false,false,false,false,false,false] rfl rfl (any_of HT_.out (by kernel_rfl)) (fun _ _ _ h => h) (Or.inr ⟨by rfl, rfl⟩) ?_ ?_
              rotate_left
              ·simp only [Act.put, List.setIfInBounds_toArray, List.set_cons_zero, List.set_cons_succ, i64_w, i32_w]
               rfl
              refine pure_ (i := 10) (N := some 112) (v := undef) (a' := ?_) #[true,true,true,true,true,true,true,true,true,true,true,false,false,false,false,false,false,false,false,false,false,false,false,false,false,false,false,false,false,false,false,false,false,false,false,false,false,false,false,false] rfl rfl (any_of HT_.out (by kernel_rfl)) (fun _ _ _ h => h) (Or.inr ⟨by rfl, rfl⟩) ?_ ?_
              rotate_left
              ·simp only [Act.put, List.setIfInBounds_toArray, List.set_cons_zero, List.set_cons_succ, i64_w, i32_w]
               rfl
              refine pure_ (i := 11) (N := some 113) (v := undef) (a' := ?_) #[true,true,true,true,true,true,true,true,true,true,true,true,false,false,false,false,false,false,false,false,false,false,false,false,false,false,false,false,false,false,false,false,false,false,false,false,false,false,false,false] rfl rfl (any_of HT_.out (by kernel_rfl)) (fun _ _ _ h => h) (Or.inr ⟨by rfl, rfl⟩) ?_ ?_
              rotate_left
              ·simp only [Act.put, List.setIfInBounds_toArray, List.set_cons_zero, List.set_cons_succ, i64_w, i32_w]
               rfl
              refine pure_ (i := 12) (N := some 114) (v := undef) (a' := ?_) #[true,true,true,true,true,true,true,true,true,true,true,true,true,false,false,false,false,false,false,false,false,false,false,false,false,false,false,false,false,false,false,false,false,false,false,false,false,false,false,false] rfl rfl (any_of HT_.out (by kernel_rfl)) (fun _ _ _ h => h) (Or.inr ⟨by rfl, rfl⟩) ?_ ?_
              rotate_left
              ·simp only [Act.put, List.setIfInBounds_toArray, List.set_cons_zero, List.set_cons_succ, i64_w, i32_w]
               rfl
              refine pure_ (i := 13) (N := some 115) (v := undef) (a' := ?_) #[true,true,true,true,true,true,true,true,true,true,true,true,true,true,false,false,false,false,false,false,false,false,false,false,false,false,false,false,false,false,false,false,false,false,false,false,false,false,false,false] rfl rfl (any_of HT_.out (by kernel_rfl)) (fun _ _ _ h => h) (Or.inr ⟨by rfl, rfl⟩) ?_ ?_
              rotate_left
              ·simp only [Act.put, List.setIfInBounds_toArray, List.set_cons_zero, List.set_cons_succ, i64_w, i32_w]
               rfl
              refine pure_ (i := 14) (N := some 116) (v := undef) (a' := ?_) #[true,true,true,true,true,true,true,true,true,true,true,true,true,true,true,false,false,false,false,false,false,false,false,false,false,false,false,false,false,false,false,false,false,false,false,false,false,false,false,false] rfl rfl (any_of HT_.out (by kernel_rfl)) (fun _ _ _ h => h) (Or.inr ⟨by rfl, rfl⟩) ?_ ?_
              rotate_left
              ·simp only [Act.put, List.setIfInBounds_toArray, List.set_cons_zero, List.set_cons_succ, i64_w, i32_w]
               rfl
              refine pure_ (i := 15) (N := some 117) (v := undef) (a' := ?_) #[true,true,true,true,true,true,true,true,true,true,true,true,true,true,true,true,false,false,false,false,false,false,false,false,false,false,false,false,false,false,false,false,false,false,false,false,false,false,false,false] rfl rfl (any_of HT_.out (by kernel_rfl)) (fun _ _ _ h => h) (Or.inr ⟨by rfl, rfl⟩) ?_ ?_
              rotate_left
              ·simp only [Act.put, List.setIfInBounds_toArray, List.set_cons_zero, List.set_cons_succ, i64_w, i32_w]
               rfl
              refine pure_ (i := 16) (N := some 118) (v := undef) (a' := ?_) #[true,true,true,true,true,true,true,true,true,true,true,true,true,true,true,true,true,false,false,false,false,false,false,false,false,false,false,false,false,false,false,false,false,false,false,false,false,false,false,false] rfl rfl (any_of HT_.out (by kernel_rfl)) (fun _ _ _ h => h) (Or.inr ⟨by rfl, rfl⟩) ?_ ?_
              rotate_left
              ·simp only [Act.put, List.setIfInBounds_toArray, List.set_cons_zero, List.set_cons_succ, i64_w, i32_w]
               rfl
              refine pure_ (i := 17) (N := some 119) (v := undef) (a' := ?_) #[true,true,true,true,true,true,true,true,true,true,true,true,true,true,true,true,true,true,false,false,false,false,false,false,false,false,false,false,false,false,false,false,false,false,false,false,false,false,false,false] rfl rfl (any_of HT_.out (by kernel_rfl)) (fun _ _ _ h => h) (Or.inr ⟨by rfl, rfl⟩) ?_ ?_
              rotate_left
              ·simp only [Act.put, List.setIfInBounds_toArray, List.set_cons_zero, List.set_cons_succ, i64_w, i32_w]
               rfl
              refine pure_ (i := 18) (N := some 120) (v := undef) (a' := ?_) #[true,true,true,true,true,true,true,true,true,true,true,true,true,true,true,true,true,true,true,false,false,false,false,false,false,false,false,false,false,false,false,false,false,false,false,false,false,false,false,false] rfl rfl (any_of HT_.out (by kernel_rfl)) (fun _ _ _ h => h) (Or.inr ⟨by rfl, rfl⟩) ?_ ?_
              rotate_left
              ·simp only [Act.put, List.setIfInBounds_toArray, List.set_cons_zero, List.set_cons_succ, i64_w, i32_w]
               rfl
              refine pure_ (i := 19) (N := some 121) (v := undef) (a' := ?_) #[true,true,true,true,true,true,true,true,true,true,true,true,true,true,true,true,true,true,true,true,false,false,false,false,false,false,false,false,false,false,false,false,false,false,false,false,false,false,false,false] rfl rfl (any_of HT_.out (by kernel_rfl)) (fun _ _ _ h => h) (Or.inr ⟨by rfl, rfl⟩) ?_ ?_
              rotate_left
              ·simp only [Act.put, List.setIfInBounds_toArray, List.set_cons_zero, List.set_cons_succ, i64_w, i32_w]
               rfl
              refine pure_ (i := 20) (N := some 122) (v := ?_) (a' := ?_) #[true,true,true,true,true,true,true,true,true,true,true,true,true,true,true,true,true,true,true,true,true,false,false,false,false,false,false,false,false,false,false,false,false,false,false,false,false,false,false,false] rfl rfl (any_of HT_.out (by kernel_rfl)) (fun _ _ _ h => h) (Or.inl ⟨by rfl, ?_⟩) ?_ ?_
              rotate_left
              ·intro w'
               go_simp
               with_reducible rfl
              rotate_left
              ·simp only [Act.put, List.setIfInBounds_toArray, List.set_cons_zero, List.set_cons_succ, i64_w, i32_w]
               rfl
              refine pure_ (i := 21) (N := some 123) (v := ?_) (a' := ?_) #[true,true,true,true,true,true,true,true,true,true,true,true,true,true,true,true,true,true,true,true,true,true,false,false,false,false,false,false,false,false,false,false,false,false,false,false,false,false,false,false] rfl rfl (any_of HT_.out (by kernel_rfl)) (fun _ _ _ h => h) (Or.inl ⟨by rfl, ?_⟩) ?_ ?_
              rotate_left
              ·intro w'
               go_simp
               with_reducible rfl
              rotate_left
              ·simp only [Act.put, List.setIfInBounds_toArray, List.set_cons_zero, List.set_cons_succ, i64_w, i32_w]
               rfl
              refine pure_ (i := 22) (N := some 124) (v := undef) (a' := ?_) #[true,true,true,true,true,true,true,true,true,true,true,true,true,true,true,true,true,true,true,true,true,true,true,false,false,false,false,false,false,false,false,false,false,false,false,false,false,false,false,false] rfl rfl (any_of HT_.out (by kernel_rfl)) (fun _ _ _ h => h) (Or.inr ⟨by rfl, rfl⟩) ?_ ?_
              rotate_left
              ·simp only [Act.put, List.setIfInBounds_toArray, List.set_cons_zero, List.set_cons_succ, i64_w, i32_w]
               rfl
              refine pure_ (i := 23) (N := some 125) (v := undef) (a' := ?_) #[true,true,true,true,true,true,true,true,true,true,true,true,true,true,true,true,true,true,true,true,true,true,true,true,false,false,false,false,false,false,false,false,false,false,false,false,false,false,false,false] rfl rfl (any_of HT_.out (by kernel_rfl)) (fun _ _ _ h => h) (Or.inr ⟨by rfl, rfl⟩) ?_ ?_
              rotate_left
              ·simp only [Act.put, List.setIfInBounds_toArray, List.set_cons_zero, List.set_cons_succ, i64_w, i32_w]
               rfl
              refine pure_ (i := 24) (N := some 126) (v := undef) (a' := ?_) #[true,true,true,true,true,true,true,true,true,true,true,true,true,true,true,true,true,true,true,true,true,true,true,true,true,false,false,false,false,false,false,false,false,false,false,false,false,false,false,false] rfl rfl (any_of HT_.out (by kernel_rfl)) (fun _ _ _ h => h) (Or.inr ⟨by rfl, rfl⟩) ?_ ?_
              rotate_left
              ·simp only [Act.put, List.setIfInBounds_toArray, List.set_cons_zero, List.set_cons_succ, i64_w, i32_w]
               rfl
              refine pure_ (i := 25) (N := some 127) (v := undef) (a' := ?_) #[true,true,true,true,true,true,true,true,true,true,true,true,true,true,true,true,true,true,true,true,true,true,true,true,true,true,false,false,false,false,false,false,false,false,false,false,false,false,false,false] rfl rfl (any_of HT_.out (by kernel_rfl)) (fun _ _ _ h => h) (Or.inr ⟨by rfl, rfl⟩) ?_ ?_
              rotate_left
              ·simp only [Act.put, List.setIfInBounds_toArray, List.set_cons_zero, List.set_cons_succ, i64_w, i32_w]
               rfl
              refine pure_ (i := 26) (N := some 128) (v := undef) (a' := ?_) #[true,true,true,true,true,true,true,true,true,true,true,true,true,true,true,true,true,true,true,true,true,true,true,true,true,true,true,false,false,false,false,false,false,false,false,false,false,false,false,false] rfl rfl (any_of HT_.out (by kernel_rfl)) (fun _ _ _ h => h) (Or.inr ⟨by rfl, rfl⟩) ?_ ?_
              rotate_left
              ·simp only [Act.put, List.setIfInBounds_toArray, List.set_cons_zero, List.set_cons_succ, i64_w, i32_w]
               rfl
              refine pure_ (i := 27) (N := some 129) (v := undef) (a' := ?_) #[true,true,true,true,true,true,true,true,true,true,true,true,true,true,true,true,true,true,true,true,true,true,true,true,true,true,true,true,false,false,false,false,false,false,false,false,false,false,false,false] rfl rfl (any_of HT_.out (by kernel_rfl)) (fun _ _ _ h => h) (Or.inr ⟨by rfl, rfl⟩) ?_ ?_
              rotate_left
              ·simp only [Act.put, List.setIfInBounds_toArray, List.set_cons_zero, List.set_cons_succ, i64_w, i32_w]
               rfl
              refine pure_ (i := 28) (N := some 130) (v := undef) (a' := ?_) #[true,true,true,true,true,true,true,true,true,true,true,true,true,true,true,true,true,true,true,true,true,true,true,true,true,true,true,true,true,false,false,false,false,false,false,false,false,false,false,false] rfl rfl (any_of HT_.out (by kernel_rfl)) (fun _ _ _ h => h) (Or.inr ⟨by rfl, rfl⟩) ?_ ?_
              rotate_left
              ·simp only [Act.put, List.setIfInBounds_toArray, List.set_cons_zero, List.set_cons_succ, i64_w, i32_w]
               rfl
              refine pure_ (i := 29) (N := some 131) (v := ?_) (a' := ?_) #[true,true,true,true,true,true,true,true,true,true,true,true,true,true,true,true,true,true,true,true,true,true,true,true,true,true,true,true,true,true,false,false,false,false,false,false,false,false,false,false] rfl rfl (any_of HT_.out (by kernel_rfl)) (fun _ _ _ h => h) (Or.inl ⟨by rfl, ?_⟩) ?_ ?_
              rotate_left
              ·intro w'
               go_simp
               with_reducible rfl
              rotate_left
              ·simp only [Act.put, List.setIfInBounds_toArray, List.set_cons_zero, List.set_cons_succ, i64_w, i32_w]
               rfl
              refine pure_ (i := 30) (N := some 132) (v := ?_) (a' := ?_) #[true,true,true,true,true,true,true,true,true,true,true,true,true,true,true,true,true,true,true,true,true,true,true,true,true,true,true,true,true,true,true,false,false,false,false,false,false,false,false,false] rfl rfl (any_of HT_.out (by kernel_rfl)) (fun _ _ _ h => h) (Or.inl ⟨by rfl, ?_⟩) ?_ ?_
              rotate_left
              ·intro w'
               go_simp
               with_reducible rfl
              rotate_left
              ·simp only [Act.put, List.setIfInBounds_toArray, List.set_cons_zero, List.set_cons_succ, i64_w, i32_w]
               rfl
              refine pure_ (i := 31) (N := some 133) (v := undef) (a' := ?_) #[true,true,true,true,true,true,true,true,true,true,true,true,true,true,true,true,true,true,true,true,true,true,true,true,true,true,true,true,true,true,true,true,false,false,false,false,false,false,false,false] rfl rfl (any_of HT_.out (by kernel_rfl)) (fun _ _ _ h => h) (Or.inr ⟨by rfl, rfl⟩) ?_ ?_
              rotate_left
              ·simp only [Act.put, List.setIfInBounds_toArray, List.set_cons_zero, List.set_cons_succ, i64_w, i32_w]
               rfl
              refine pure_ (i := 32) (N := some 134) (v := undef) (a' := ?_) #[true,true,true,true,true,true,true,true,true,true,true,true,true,true,true,true,true,true,true,true,true,true,true,true,true,true,true,true,true,true,true,true,true,false,false,false,false,false,false,false] rfl rfl (any_of HT_.out (by kernel_rfl)) (fun _ _ _ h => h) (Or.inr ⟨by rfl, rfl⟩) ?_ ?_
              rotate_left
              ·simp only [Act.put, List.setIfInBounds_toArray, List.set_cons_zero, List.set_cons_succ, i64_w, i32_w]
               rfl
              refine pure_ (i := 33) (N := some 135) (v := undef) (a' := ?_) #[true,true,true,true,true,true,true,true,true,true,true,true,true,true,true,true,true,true,true,true,true,true,true,true,true,true,true,true,true,true,true,true,true,true,false,false,false,false,false,false] rfl rfl (any_of HT_.out (by kernel_rfl)) (fun _ _ _ h => h) (Or.inr ⟨by rfl, rfl⟩) ?_ ?_
              rotate_left
              ·simp only [Act.put, List.setIfInBounds_toArray, List.set_cons_zero, List.set_cons_succ, i64_w, i32_w]
               rfl
              refine pure_ (i := 34) (N := some 136) (v := undef) (a' := ?_) #[true,true,true,true,true,true,true,true,true,true,true,true,true,true,true,true,true,true,true,true,true,true,true,true,true,true,true,true,true,true,true,true,true,true,true,false,false,false,false,false] rfl rfl (any_of HT_.out (by kernel_rfl)) (fun _ _ _ h => h) (Or.inr ⟨by rfl, rfl⟩) ?_ ?_
              rotate_left
              ·simp only [Act.put, List.setIfInBounds_toArray, List.set_cons_zero, List.set_cons_succ, i64_w, i32_w]
               rfl
              refine pure_ (i := 35) (N := some 137) (v := undef) (a' := ?_) #[true,true,true,true,true,true,true,true,true,true,true,true,true,true,true,true,true,true,true,true,true,true,true,true,true,true,true,true,true,true,true,true,true,true,true,true,false,false,false,false] rfl rfl (any_of HT_.out (by kernel_rfl)) (fun _ _ _ h => h) (Or.inr ⟨by rfl, rfl⟩) ?_ ?_
              rotate_left
              ·simp only [Act.put, List.setIfInBounds_toArray, List.set_cons_zero, List.set_cons_succ, i64_w, i32_w]
               rfl
              refine pure_ (i := 36) (N := some 138) (v := undef) (a' := ?_) #[true,true,true,true,true,true,true,true,true,true,true,true,true,true,true,true,true,true,true,true,true,true,true,true,true,true,true,true,true,true,true,true,true,true,true,true,true,false,false,false] rfl rfl (any_of HT_.out (by kernel_rfl)) (fun _ _ _ h => h) (Or.inr ⟨by rfl, rfl⟩) ?_ ?_
              rotate_left
              ·simp only [Act.put, List.setIfInBounds_toArray, List.set_cons_zero, List.set_cons_succ, i64_w, i32_w]
               rfl
              refine pure_ (i := 37) (N := some 139) (v := undef) (a' := ?_) #[true,true,true,true,true,true,true,true,true,true,true,true,true,true,true,true,true,true,true,true,true,true,true,true,true,true,true,true,true,true,true,true,true,true,true,true,true,true,false,false] rfl rfl (any_of HT_.out (by kernel_rfl)) (fun _ _ _ h => h) (Or.inr ⟨by rfl, rfl⟩) ?_ ?_
              rotate_left
              ·simp only [Act.put, List.setIfInBounds_toArray, List.set_cons_zero, List.set_cons_succ, i64_w, i32_w]
               rfl
              refine pure_ (i := 38) (N := some 140) (v := undef) (a' := ?_) #[true,true,true,true,true,true,true,true,true,true,true,true,true,true,true,true,true,true,true,true,true,true,true,true,true,true,true,true,true,true,true,true,true,true,true,true,true,true,true,false] rfl rfl (any_of HT_.out (by kernel_rfl)) (fun _ _ _ h => h) (Or.inr ⟨by rfl, rfl⟩) ?_ ?_
              rotate_left
              ·simp only [Act.put, List.setIfInBounds_toArray, List.set_cons_zero, List.set_cons_succ, i64_w, i32_w]
               rfl
              refine pure_ (i := 39) (N := some 141) (v := ?_) (a' := ?_) #[true,true,true,true,true,true,true,true,true,true,true,true,true,true,true,true,true,true,true,true,true,true,true,true,true,true,true,true,true,true,true,true,true,true,true,true,true,true,true,true] rfl rfl (any_of HT_.out (by kernel_rfl)) (fun _ _ _ h => h) (Or.inl ⟨by rfl, ?_⟩) ?_ ?_
              rotate_left
              ·intro w'
               go_simp
               with_reducible rfl
              rotate_left
              ·simp only [Act.put, List.setIfInBounds_toArray, List.set_cons_zero, List.set_cons_succ, i64_w, i32_w]
               rfl
              refine done_ (done_of HT_.out (by kernel_rfl)) ?_
              try go_wp2
              go_meet
              case rel => exact ⟨_, (true), (by first | rfl | (simp; done) | (rw [prx_ne]; first | done | rfl) | (simp [*]; done)), H', ⟨by have := HJ4.out; have := HJ22.out; have := HK3.out; first | omega | exact Nat.le_refl _⟩, ⟨by (with_reducible repeat (first | apply Kd.R_alloc | apply Kd.R_drewN | apply Kd.R_drew)); exact HO_6.out⟩, ⟨by (with_reducible repeat (first | apply Kd.S_alloc | apply Kd.S_drewN | apply Kd.S_drew)); exact Kd.S_mono HO300.out (fun _ hk => hk.2)⟩, ⟨by repeat (first | (with_reducible first | exact HB.out | apply below_alloc | apply pw_below_drewN | apply below_drew1) | exact HB.out)⟩⟩
            ·replace c50 := Bool.eq_false_iff.mpr c50
             subst c50
             have H1 : (laws_FnTrailerNames.j4 k3 x6_3 t296 true) = some r := by rw [if_neg (show ¬ (false = true) by decide)] at H; exact H
             clear H
             have H := H1
             clear H1
             have H' := Aside0.mk H
             clear H
             try go_wp2
             have n0_ := Aside0.mk (Kd.R_drew HO_6.out)
             have n1_ := Aside0.mk (Kd.R_drew HO295.out)
             have n2_ := Aside0.mk (Kd.S_drew HO300.out)
             have n3_ := Aside0.mk (below_drew1 HB.out)
             clear HO_6
             clear HO295
             clear HO300
             clear HB
             have HO_6 := n0_
             have HO295 := n1_
             have HO300 := n2_
             have HB := n3_
             clear n0_ n1_ n2_ n3_
             refine start_ (n := 40) (S := fun w' => True) (ds := []) #[false,false,false,false,false,false,false,false,false,false,false,false,false,false,false,false,false,false,false,false,false,false,false,false,false,false,false,false,false,false,false,false,false,false,false,false,false,false,false,false] (by kernel_rfl) rfl rfl trivial (fun hHeld => ?_); refine with_tabW laws_FnTrailerNames.tab18 laws_FnTrailerNames.bits18 (fun HT_ HW_ => ?_)
             generalize w49.drew = w75 at HO_6 HO295 HO300 HB hHeld ⊢
             refine pure_ (i := 0) (N := some 102) (v := ?_) (a' := ?_) #[true,false,false,false,false,false,false,false,false,false,false,false,false,false,false,false,false,false,false,false,false,false,false,false,false,false,false,false,false,false,false,false,false,false,false,false,false,false,false,false] rfl rfl (any_of HT_.out (by kernel_rfl)) (fun _ _ _ h => h) (Or.inl ⟨by rfl, ?_⟩) ?_ ?_
             rotate_left
             ·intro w'
              go_simp
              with_reducible rfl
             rotate_left
             ·simp only [Act.put, List.setIfInBounds_toArray, List.set_cons_zero, List.set_cons_succ, i64_w, i32_w]
              rfl
             refine pure_ (i := 1) (N := some 103) (v := ?_) (a' := ?_) #[true,true,false,false,false,false,false,false,false,false,false,false,false,false,false,false,false,false,false,false,false,false,false,false,false,false,false,false,false,false,false,false,false,false,false,false,false,false,false,false] rfl rfl (any_of HT_.out (by kernel_rfl)) (fun _ _ _ h => h) (Or.inl ⟨by rfl, ?_⟩) ?_ ?_
             rotate_left
             ·intro w'
              go_simp
              with_reducible rfl
             rotate_left
             ·simp only [Act.put, List.setIfInBounds_toArray, List.set_cons_zero, List.set_cons_succ, i64_w, i32_w]
              rfl
             refine pure_ (i := 2) (N := some 104) (v := ?_) (a' := ?_) #[true,true,true,false,false,false,false,false,false,false,false,false,false,false,false,false,false,false,false,false,false,false,false,false,false,false,false,false,false,false,false,false,false,false,false,false,false,false,false,false] rfl rfl (any_of HT_.out (by kernel_rfl)) (fun _ _ _ h => h) (Or.inl ⟨by rfl, ?_⟩) ?_ ?_
             rotate_left
             ·intro w'
              go_simp
              with_reducible rfl
             rotate_left
             ·simp only [Act.put, List.setIfInBounds_toArray, List.set_cons_zero, List.set_cons_succ, i64_w, i32_w]
              rfl
             refine pure_ (i := 3) (N := some 105) (v := undef) (a' := ?_) #[true,true,true,true,false,false,false,false,false,false,false,false,false,false,false,false,false,false,false,false,false,false,false,false,false,false,false,false,false,false,false,false,false,false,false,false,false,false,false,false] rfl rfl (any_of HT_.out (by kernel_rfl)) (fun _ _ _ h => h) (Or.inr ⟨by rfl, rfl⟩) ?_ ?_
             rotate_left
             ·simp only [Act.put, List.setIfInBounds_toArray, List.set_cons_zero, List.set_cons_succ, i64_w, i32_w]
              rfl
             refine pure_ (i := 4) (N := some 106) (v := undef) (a' := ?_) #[true,true,true,true,true,false,false,false,false,false,false,false,false,false,false,false,false,false,false,false,false,false,false,false,false,false,false,false,false,false,false,false,false,false,false,false,false,false,false,false] rfl rfl (any_of HT_.out (by kernel_rfl)) (fun _ _ _ h => h) (Or.inr ⟨by rfl, rfl⟩) ?_ ?_
             rotate_left
             ·simp only [Act.put, List.setIfInBounds_toArray, List.set_cons_zero, List.set_cons_succ, i64_w, i32_w]
              rfl
             refine pure_ (i := 5) (N := some 107) (v := undef) (a' := ?_) #[true,true,true,true,true,true,false,false,false,false,false,false,false,false,false,false,false,false,false,false,false,false,false,false,false,false,false,false,false,false,false,false,false,false,false,false,false,false,false,false] rfl rfl (any_of HT_.out (by kernel_rfl)) (fun _ _ _ h => h) (Or.inr ⟨by rfl, rfl⟩) ?_ ?_
             rotate_left
             ·simp only [Act.put, List.setIfInBounds_toArray, List.set_cons_zero, List.set_cons_succ, i64_w, i32_w]
              rfl
             refine pure_ (i := 6) (N := some 108) (v := ?_) (a' := ?_) #[true,true,true,true,true,true,true,false,false,false,false,false,false,false,false,false,false,false,false,false,false,false,false,false,false,false,false,false,false,false,false,false,false,false,false,false,false,false,false,false] rfl rfl (any_of HT_.out (by kernel_rfl)) (fun _ _ _ h => h) (Or.inl ⟨by rfl, ?_⟩) ?_ ?_
             rotate_left
             ·intro w'
              go_simp
              with_reducible rfl
             rotate_left
             ·simp only [Act.put, List.setIfInBounds_toArray, List.set_cons_zero, List.set_cons_succ, i64_w, i32_w]
              rfl
             refine pure_ (i := 7) (N := some 109) (v := ?_) (a' := ?_) #[true,true,true,true,true,true,true,true,false,false,false,false,false,false,false,false,false,false,false,false,false,false,false,false,false,false,false,false,false,false,false,false,false,false,false,false,false,false,false,false] rfl rfl (any_of HT_.out (by kernel_rfl)) (fun _ _ _ h => h) (Or.inl ⟨by rfl, ?_⟩) ?_ ?_
             rotate_left
             ·intro w'
              go_simp
              with_reducible rfl
             rotate_left
             ·simp only [Act.put, List.setIfInBounds_toArray, List.set_cons_zero, List.set_cons_succ, i64_w, i32_w]
              rfl
             refine pure_ (i := 8) (N := some 110) (v := undef) (a' := ?_) #[true,true,true,true,true,true,true,true,true,false,false,false,false,false,false,false,false,false,false,false,false,false,false,false,false,false,false,false,false,false,false,false,false,false,false,false,false,false,false,false] rfl rfl (any_of HT_.out (by kernel_rfl)) (fun _ _ _ h => h) (Or.inr ⟨by rfl, rfl⟩) ?_ ?_
             rotate_left
             ·simp only [Act.put, List.setIfInBounds_toArray, List.set_cons_zero, List.set_cons_succ, i64_w, i32_w]
              rfl
             refine pure_ (i := 9) (N := some 111) (v := undef) (a' := ?_) #[true,true,true,true,true,true,true,true,true,true,false,false,false,false,false,false,false,false,false,false,false,false,false,false,false,false,false,false,false,false,false,false,false,false,false,false,false,false,false,false] rfl rfl (any_of HT_.out (by kernel_rfl)) (fun _ _ _ h => h) (Or.inr ⟨by rfl, rfl⟩) ?_ ?_
             rotate_left
             ·simp only [Act.put, List.setIfInBounds_toArray, List.set_cons_zero, List.set_cons_succ, i64_w, i32_w]
              rfl
             refine pure_ (i := 10) (N := some 112) (v := undef) (a' := ?_) #[true,true,true,true,true,true,true,true,true,true,true,false,false,false,false,false,false,false,false,false,false,false,false,false,false,false,false,false,false,false,false,false,false,false,false,false,false,false,false,false] rfl rfl (any_of HT_.out (by kernel_rfl)) (fun _ _ _ h => h) (Or.inr ⟨by rfl, rfl⟩) ?_ ?_
             rotate_left
             ·simp only [Act.put, List.setIfInBounds_toArray, List.set_cons_zero, List.set_cons_succ, i64_w, i32_w]
              rfl
             refine pure_ (i := 11) (N := some 113) (v := undef) (a' := ?_) #[true,true,true,true,true,true,true,true,true,true,true,true,false,false,false,false,false,false,false,false,false,false,false,false,false,false,false,false,false,false,false,false,false,false,false,false,false,false,false,false] rfl rfl (any_of HT_.out (by kernel_rfl)) (fun _ _ _ h => h) (Or.inr ⟨by rfl, rfl⟩) ?_ ?_
             rotate_left
             ·simp only [Act.put, List.setIfInBounds_toArray, List.set_cons_zero, List.set_cons_succ, i64_w, i32_w]
              rfl
             refine pure_ (i := 12) (N := some 114) (v := undef) (a' := ?_) #[true,true,true,true,true,true,true,true,true,true,true,true,true,false,false,false,false,false,false,false,false,false,false,false,false,false,false,false,false,false,false,false,false,false,false,false,false,false,false,false] rfl rfl (any_of HT_.out (by kernel_rfl)) (fun _ _ _ h => h) (Or.inr ⟨by rfl, rfl⟩) ?_ ?_
             rotate_left
             ·simp only [Act.put, List.setIfInBounds_toArray, List.set_cons_zero, List.set_cons_succ, i64_w, i32_w]
              rfl
             refine pure_ (i := 13) (N := some 115) (v := undef) (a' := ?_) #[true,true,true,true,true,true,true,true,true,true,true,true,true,true,false,false,false,false,false,false,false,false,false,false,false,false,false,false,false,false,false,false,false,false,false,false,false,false,false,false] rfl rfl (any_of HT_.out (by kernel_rfl)) (fun _ _ _ h => h) (Or.inr ⟨by rfl, rfl⟩) ?_ ?_
             rotate_left
             ·simp only [Act.put, List.setIfInBounds_toArray, List.set_cons_zero, List.set_cons_succ, i64_w, i32_w]
              rfl
             refine pure_ (i := 14) (N := some 116) (v := undef) (a' := ?_) #[true,true,true,true,true,true,true,true,true,true,true,true,true,true,true,false,false,false,false,false,false,false,false,false,false,false,false,false,false,false,false,false,false,false,false,false,false,false,false,false] rfl rfl (any_of HT_.out (by kernel_rfl)) (fun _ _ _ h => h) (Or.inr ⟨by rfl, rfl⟩) ?_ ?_
             rotate_left
             ·simp only [Act.put, List.setIfInBounds_toArray, List.set_cons_zero, List.set_cons_succ, i64_w, i32_w]
              rfl
             refine pure_ (i := 15) (N := some 117) (v := undef) (a' := ?_) #[true,true,true,true,true,true,true,true,true,true,true,true,true,true,true,true,false,false,false,false,false,false,false,false,false,false,false,false,false,false,false,false,false,false,false,false,false,false,false,false] rfl rfl (any_of HT_.out (by kernel_rfl)) (fun _ _ _ h => h) (Or.inr ⟨by rfl, rfl⟩) ?_ ?_
             rotate_left
             ·simp only [Act.put, List.setIfInBounds_toArray, List.set_cons_zero, List.set_cons_succ, i64_w, i32_w]
              rfl
             refine pure_ (i := 16) (N := some 118) (v := undef) (a' := ?_) #[true,true,true,true,true,true,true,true,true,true,true,true,true,true,true,true,true,false,false,false,false,false,false,false,false,false,false,false,false,false,false,false,false,false,false,false,false,false,false,false] rfl rfl (any_of HT_.out (by kernel_rfl)) (fun _ _ _ h => h) (Or.inr ⟨by rfl, rfl⟩) ?_ ?_
             rotate_left
             ·simp only [Act.put, List.setIfInBounds_toArray, List.set_cons_zero, List.set_cons_succ, i64_w, i32_w]
              rfl
             refine pure_ (i := 17) (N := some 119) (v := undef) (a' := ?_) #[true,true,true,true,true,true,true,true,true,true,true,true,true,true,true,true,true,true,false,false,false,false,false,false,false,false,false,false,false,false,false,false,false,false,false,false,false,false,false,false] rfl rfl (any_of HT_.out (by kernel_rfl)) (fun _ _ _ h => h) (Or.inr ⟨by rfl, rfl⟩) ?_ ?_
             rotate_left
             ·simp only [Act.put, List.setIfInBounds_toArray, List.set_cons_zero, List.set_cons_succ, i64_w, i32_w]
              rfl
             refine pure_ (i := 18) (N := some 120) (v := undef) (a' := ?_) #[true,true,true,true,true,true,true,true,true,true,true,true,true,true,true,true,true,true,true,false,false,false,false,false,false,false,false,false,false,false,false,false,false,false,false,false,false,false,false,false] rfl rfl (any_of HT_.out (by kernel_rfl)) (fun _ _ _ h => h) (Or.inr ⟨by rfl, rfl⟩) ?_ ?_
             rotate_left
             ·simp only [Act.put, List.setIfInBounds_toArray, List.set_cons_zero, List.set_cons_succ, i64_w, i32_w]
              rfl
             refine pure_ (i := 19) (N := some 121) (v := undef) (a' := ?_) #[true,true,true,true,true,true,true,true,true,true,true,true,true,true,true,true,true,true,true,true,false,false,false,false,false,false,false,false,false,false,false,false,false,false,false,false,false,false,false,false] rfl rfl (any_of HT_.out (by kernel_rfl)) (fun _ _ _ h => h) (Or.inr ⟨by rfl, rfl⟩) ?_ ?_
             rotate_left
             ·simp only [Act.put, List.setIfInBounds_toArray, List.set_cons_zero, List.set_cons_succ, i64_w, i32_w]
              rfl
             refine pure_ (i := 20) (N := some 122) (v := ?_) (a' := ?_) #[true,true,true,true,true,true,true,true,true,true,true,true,true,true,true,true,true,true,true,true,true,false,false,false,false,false,false,false,false,false,false,false,false,false,false,false,false,false,false,false] rfl rfl (any_of HT_.out (by kernel_rfl)) (fun _ _ _ h => h) (Or.inl ⟨by rfl, ?_⟩) ?_ ?_
             rotate_left
             ·intro w'
              go_simp
              with_reducible rfl
             rotate_left
             ·simp only [Act.put, List.setIfInBounds_toArray, List.set_cons_zero, List.set_cons_succ, i64_w, i32_w]
              rfl
             refine pure_ (i := 21) (N := some 123) (v := ?_) (a' := ?_) #[true,true,true,true,true,true,true,true,true,true,true,true,true,true,true,true,true,true,true,true,true,true,false,false,false,false,false,false,false,false,false,false,false,false,false,false,false,false,false,false] rfl rfl (any_of HT_.out (by kernel_rfl)) (fun _ _ _ h => h) (Or.inl ⟨by rfl, ?_⟩) ?_ ?_
             rotate_left
             ·intro w'
              go_simp
              with_reducible rfl
             rotate_left
             ·simp only [Act.put, List.setIfInBounds_toArray, List.set_cons_zero, List.set_cons_succ, i64_w, i32_w]
              rfl
             refine pure_ (i := 22) (N := some 124) (v := undef) (a' := ?_) #[true,true,true,true,true,true,true,true,true,true,true,true,true,true,true,true,true,true,true,true,true,true,true,false,false,false,false,false,false,false,false,false,false,false,false,false,false,false,false,false] rfl rfl (any_of HT_.out (by kernel_rfl)) (fun _ _ _ h => h) (Or.inr ⟨by rfl, rfl⟩) ?_ ?_
             rotate_left
             ·simp only [Act.put, List.setIfInBounds_toArray, List.set_cons_zero, List.set_cons_succ, i64_w, i32_w]
              rfl
             refine pure_ (i := 23) (N := some 125) (v := undef) (a' := ?_) #[true,true,true,true,true,true,true,true,true,true,true,true,true,true,true,true,true,true,true,true,true,true,true,true,false,false,false,false,false,false,false,false,false,false,false,false,false,false,false,false] rfl rfl (any_of HT_.out (by kernel_rfl)) (fun _ _ _ h => h) (Or.inr ⟨by rfl, rfl⟩) ?_ ?_
             rotate_left
             ·simp only [Act.put, List.setIfInBounds_toArray, List.set_cons_zero, List.set_cons_succ, i64_w, i32_w]
              rfl
             refine pure_ (i := 24) (N := some 126) (v := undef) (a' := ?_) #[true,true,true,true,true,true,true,true,true,true,true,true,true,true,true,true,true,true,true,true,true,true,true,true,true,false,false,false,false,false,false,false,false,false,false,false,false,false,false,false] rfl rfl (any_of HT_.out (by kernel_rfl)) (fun _ _ _ h => h) (Or.inr ⟨by rfl, rfl⟩) ?_ ?_
             rotate_left
             ·simp only [Act.put, List.setIfInBounds_toArray, List.set_cons_zero, List.set_cons_succ, i64_w, i32_w]
              rfl
             refine pure_ (i := 25) (N := some 127) (v := undef) (a' := ?_) #[true,true,true,true,true,true,true,true,true,true,true,true,true,true,true,true,true,true,true,true,true,true,true,true,true,true,false,false,false,false,false,false,false,false,false,false,false,false,false,false] rfl rfl (any_of HT_.out (by kernel_rfl)) (fun _ _ _ h => h) (Or.inr ⟨by rfl, rfl⟩) ?_ ?_
             rotate_left
             ·simp only [Act.put, List.setIfInBounds_toArray, List.set_cons_zero, List.set_cons_succ, i64_w, i32_w]
              rfl
             refine pure_ (i := 26) (N := some 128) (v := undef) (a' := ?_) #[true,true,true,true,true,true,true,true,true,true,true,true,true,true,true,true,true,true,true,true,true,true,true,true,true,true,true,false,false,false,false,false,false,false,false,false,false,false,false,false] rfl rfl (any_of HT_.out (by kernel_rfl)) (fun _ _ _ h => h) (Or.inr ⟨by rfl, rfl⟩) ?_ ?_
             rotate_left
             ·simp only [Act.put, List.setIfInBounds_toArray, List.set_cons_zero, List.set_cons_succ, i64_w, i32_w]
              rfl
             refine pure_ (i := 27) (N := some 129) (v := undef) (a' := ?_) #[true,true,true,true,true,true,true,true,true,true,true,true,true,true,true,true,true,true,true,true,true,true,true,true,true,true,true,true,false,false,false,false,false,false,false,false,false,false,false,false] rfl rfl (any_of HT_.out (by kernel_rfl)) (fun _ _ _ h => h) (Or.inr ⟨by rfl, rfl⟩) ?_ ?_
             rotate_left
             ·simp only [Act.put, List.setIfInBounds_toArray, List.set_cons_zero, List.set_cons_succ, i64_w, i32_w]
              rfl
             refine pure_ (i := 28) (N := some 130) (v := undef) (a' := ?_) #[true,true,true,true,true,true,true,true,true,true,true,true,true,true,true,true,true,true,true,true,true,true,true,true,true,true,true,true,true,false,false,false,false,false,false,false,false,false,false,false] rfl rfl (any_of HT_.out (by kernel_rfl)) (fun _ _ _ h => h) (Or.inr ⟨by rfl, rfl⟩) ?_ ?_
             rotate_left
             ·simp only [Act.put, List.setIfInBounds_toArray, List.set_cons_zero, List.set_cons_succ, i64_w, i32_w]
              rfl
             refine pure_ (i := 29) (N := some 131) (v := ?_) (a' := ?_) #[true,true,true,true,true,true,true,true,true,true,true,true,true,true,true,true,true,true,true,true,true,true,true,true,true,true,true,true,true,true,false,false,false,false,false,false,false,false,false,false] rfl rfl (any_of HT_.out (by kernel_rfl)) (fun _ _ _ h => h) (Or.inl ⟨by rfl, ?_⟩) ?_ ?_
             rotate_left
             ·intro w'
              go_simp
              with_reducible rfl
             rotate_left
             ·simp only [Act.put, List.setIfInBounds_toArray, List.set_cons_zero, List.set_cons_succ, i64_w, i32_w]
              rfl
             refine pure_ (i := 30) (N := some 132) (v := ?_) (a' := ?_) #[true,true,true,true,true,true,true,true,true,true,true,true,true,true,true,true,true,true,true,true,true,true,true,true,true,true,true,true,true,true,true,false,false,false,false,false,false,false,false,false] rfl rfl (any_of HT_.out (by kernel_rfl)) (fun _ _ _ h => h) (Or.inl ⟨by rfl, ?_⟩) ?_ ?_
             rotate_left
             ·intro w'
              go_simp
              with_reducible rfl
             rotate_left
             ·simp only [Act.put, List.setIfInBounds_toArray, List.set_cons_zero, List.set_cons_succ, i64_w, i32_w]
              rfl
             refine pure_ (i := 31) (N := some 133) (v := undef) (a' := ?_) #[true,true,true,true,true,true,true,true,true,true,true,true,true,true,true,true,true,true,true,true,true,true,true,true,true,true,true,true,true,true,true,true,false,false,false,false,false,false,false,false] rfl rfl (any_of HT_.out (by kernel_rfl)) (fun _ _ _ h => h) (Or.inr ⟨by rfl, rfl⟩) ?_ ?_
             rotate_left
             ·simp only [Act.put, List.setIfInBounds_toArray, List.set_cons_zero, List.set_cons_succ, i64_w, i32_w]
              rfl
             refine pure_ (i := 32) (N := some 134) (v := undef) (a' := ?_) #[true,true,true,true,true,true,true,true,true,true,true,true,true,true,true,true,true,true,true,true,true,true,true,true,true,true,true,true,true,true,true,true,true,false,false,false,false,false,false,false] rfl rfl (any_of HT_.out (by kernel_rfl)) (fun _ _ _ h => h) (Or.inr ⟨by rfl, rfl⟩) ?_ ?_
             rotate_left
             ·simp only [Act.put, List.setIfInBounds_toArray, List.set_cons_zero, List.set_cons_succ, i64_w, i32_w]
              rfl
             refine pure_ (i := 33) (N := some 135) (v := undef) (a' := ?_) #[true,true,true,true,true,true,true,true,true,true,true,true,true,true,true,true,true,true,true,true,true,true,true,true,true,true,true,true,true,true,true,true,true,true,false,false,false,false,false,false] rfl rfl (any_of HT_.out (by kernel_rfl)) (fun _ _ _ h => h) (Or.inr ⟨by rfl, rfl⟩) ?_ ?_
             rotate_left
             ·simp only [Act.put, List.setIfInBounds_toArray, List.set_cons_zero, List.set_cons_succ, i64_w, i32_w]
              rfl
             refine pure_ (i := 34) (N := some 136) (v := undef) (a' := ?_) #[true,true,true,true,true,true,true,true,true,true,true,true,true,true,true,true,true,true,true,true,true,true,true,true,true,true,true,true,true,true,true,true,true,true,true,false,false,false,false,false] rfl rfl (any_of HT_.out (by kernel_rfl)) (fun _ _ _ h => h) (Or.inr ⟨by rfl, rfl⟩) ?_ ?_
             rotate_left
             ·simp only [Act.put, List.setIfInBounds_toArray, List.set_cons_zero, List.set_cons_succ, i64_w, i32_w]
              rfl
             refine pure_ (i := 35) (N := some 137) (v := undef) (a' := ?_) #[true,true,true,true,true,true,true,true,true,true,true,true,true,true,true,true,true,true,true,true,true,true,true,true,true,true,true,true,true,true,true,true,true,true,true,true,false,false,false,false] rfl rfl (any_of HT_.out (by kernel_rfl)) (fun _ _ _ h => h) (Or.inr ⟨by rfl, rfl⟩) ?_ ?_
             rotate_left
             ·simp only [Act.put, List.setIfInBounds_toArray, List.set_cons_zero, List.set_cons_succ, i64_w, i32_w]
              rfl
             refine pure_ (i := 36) (N := some 138) (v := undef) (a' := ?_) #[true,true,true,true,true,true,true,true,true,true,true,true,true,true,true,true,true,true,true,true,true,true,true,true,true,true,true,true,true,true,true,true,true,true,true,true,true,false,false,false] rfl rfl (any_of HT_.out (by kernel_rfl)) (fun _ _ _ h => h) (Or.inr ⟨by rfl, rfl⟩) ?_ ?_
             rotate_left
             ·simp only [Act.put, List.setIfInBounds_toArray, List.set_cons_zero, List.set_cons_succ, i64_w, i32_w]
              rfl
             refine pure_ (i := 37) (N := some 139) (v := undef) (a' := ?_) #[true,true,true,true,true,true,true,true,true,true,true,true,true,true,true,true,true,true,true,true,true,true,true,true,true,true,true,true,true,true,true,true,true,true,true,true,true,true,false,false] rfl rfl (any_of HT_.out (by kernel_rfl)) (fun _ _ _ h => h) (Or.inr ⟨by rfl, rfl⟩) ?_ ?_
             rotate_left
             ·simp only [Act.put, List.setIfInBounds_toArray, List.set_cons_zero, List.set_cons_succ, i64_w, i32_w]
              rfl
             refine pure_ (i := 38) (N := some 140) (v := undef) (a' := ?_) #[true,true,true,true,true,true,true,true,true,true,true,true,true,true,true,true,true,true,true,true,true,true,true,true,true,true,true,true,true,true,true,true,true,true,true,true,true,true,true,false] rfl rfl (any_of HT_.out (by kernel_rfl)) (fun _ _ _ h => h) (Or.inr ⟨by rfl, rfl⟩) ?_ ?_
             rotate_left
             ·simp only [Act.put, List.setIfInBounds_toArray, List.set_cons_zero, List.set_cons_succ, i64_w, i32_w]
              rfl
             refine pure_ (i := 39) (N := some 141) (v := ?_) (a' := ?_) #[true,true,true,true,true,true,true,true,true,true,true,true,true,true,true,true,true,true,true,true,true,true,true,true,true,true,true,true,true,true,true,true,true,true,true,true,true,true,true,true] rfl rfl (any_of HT_.out (by kernel_rfl)) (fun _ _ _ h => h) (Or.inl ⟨by rfl, ?_⟩) ?_ ?_
             rotate_left
             ·intro w'
              go_simp
              with_reducible rfl
             rotate_left
             ·simp only [Act.put, List.setIfInBounds_toArray, List.set_cons_zero, List.set_cons_succ, i64_w, i32_w]
              rfl
             refine done_ (done_of HT_.out (by kernel_rfl)) ?_
             try go_wp2
             go_meet
             case rel => exact ⟨_, (true), (by first | rfl | (simp; done) | (rw [prx_ne]; first | done | rfl) | (simp [*]; done)), H', ⟨by have := HJ4.out; have := HJ22.out; have := HK3.out; first | omega | exact Nat.le_refl _⟩, ⟨by (with_reducible repeat (first | apply Kd.R_alloc | apply Kd.R_drewN | apply Kd.R_drew)); exact HO_6.out⟩, ⟨by (with_reducible repeat (first | apply Kd.S_alloc | apply Kd.S_drewN | apply Kd.S_drew)); exact Kd.S_mono HO300.out (fun _ hk => hk.2)⟩, ⟨by repeat (first | (with_reducible first | exact HB.out | apply below_alloc | apply pw_below_drewN | apply below_drew1) | exact HB.out)⟩⟩
           case rest =>
            clear HC45
            try clear c1
            try clear p2
            try clear c3
            try clear c5
            try clear c6
            try clear c14
            try clear c30
            try clear c50
            try clear c51
            try clear c51b0
            try clear c51b1
            try clear c52
            try clear c54
            try clear c55
            try clear c61
            obtain ⟨kq, x141_44, rfl, HA, HJ44, HO_6, HO_9, HB⟩ := hcut
            cases kq with
            | zero => exact absurd HA.out (by simp [laws_FnTrailerNames.j4])
            | succ kj44 =>
             have H := HA.out
             clear HA
             simp only [laws_FnTrailerNames.j4] at H
             by_cases c76 : x141_44 = true
             ·subst c76
              have H1 : (some false) = some r := by rw [if_pos rfl] at H; exact H
              clear H
              have H := H1
              clear H1
              obtain rfl := Option.some.inj H
              go_wp2
              go_ret
              exact ⟨by first | rfl | (simp [errW_none, errW_some] <;> rfl) | (simp [*, errW_none, errW_some] <;> rfl), by repeat (first | (with_reducible first | exact HB.out | apply below_alloc | apply pw_below_drewN | apply below_drew1) | exact HB.out)⟩
             ·replace c76 := Bool.eq_false_iff.mpr c76
              subst c76
              have H1 : (laws_FnTrailerNames.l1 kj44 t296 ([] : List ByteArray) x6_3 (x6_3.length : Int) 0) = some r := by rw [if_neg (show ¬ (false = true) by decide)] at H; exact H
              clear H
              have H := H1
              clear H1
              have H' := Aside0.mk H
              clear H
              obtain ⟨Ao77, co77, eo77⟩ := Kd.R_slice HO_6.out
              subst eo77
              go_wp2
              go_loopg [12, 144] kj44 (fun kq v12 v144 w' => ∃ (x12_5 : List ByteArray) (x144_5 : Int), v144 = .int .i64 x144_5 ∧ Aside0 (laws_FnTrailerNames.l1 kq t296 x12_5 x6_3 (x6_3.length : Int) x144_5 = some r) ∧ Aside0 (kq ≤ kj44) ∧ Aside0 (Kd.S k32 32 w' w.heap.size (fun k_ => some k_ ≠ (v12 : Value).ownBlock ∧ some k_ ≠ ((.slice Ao77 x6_3.length co77) : Value).ownBlock) v299 t296) ∧ Aside0 (Kd.R Kd.string 9 w' w.heap.size (fun _ => True) v12 x12_5) ∧ Aside0 (Kd.R k34 34 w' w.heap.size (fun _ => True) (.slice Ao77 x6_3.length co77) x6_3) ∧ Aside0 (Below w.heap.size w w'))
              case atStart => exact ⟨(([] : List ByteArray)), (0), (by first | rfl | (simp; done) | (rw [prx_ne]; first | done | rfl) | (simp [*]; done)), H', ⟨Nat.le_refl _⟩, ⟨by (with_reducible repeat (first | apply Kd.S_alloc | apply Kd.S_drewN | apply Kd.S_drew)); exact Kd.S_mono HO_9.out (fun _ hk => ⟨(by simp [Value.ownBlock]), hk⟩)⟩, ⟨by first | exact Kd.R_nil _ _ _ _ _ | exact Kd.N_nil _ _ _ _ _ | exact Kd.V_nil _ _ _ _ _ | exact Kd.Q_nil _ _ _ _ _ | exact Kd.S_nil _ _ _ _ _⟩, ⟨by (with_reducible repeat (first | apply Kd.R_alloc | apply Kd.R_drewN | apply Kd.R_drew)); exact HO_6.out⟩, ⟨by repeat (first | (with_reducible first | exact HB.out | apply below_alloc | apply pw_below_drewN | apply below_drew1) | exact HB.out)⟩⟩
              case round =>
               clear H'
               try clear c1
               try clear p2
               try clear c3
               try clear c5
               try clear c6
               try clear c7
               try clear c14
               try clear c30
               try clear c50
               try clear c51
               try clear c51b0
               try clear c51b1
               try clear c52
               try clear c54
               try clear c55
               try clear c61
               try clear c76
               try clear p2
               obtain ⟨x12_5, x144_5, rfl, HA, HK5, HO_9, HO_12, HO_142, HB⟩ := hrel
               cases gk with
               | zero => exact absurd HA.out (by simp [laws_FnTrailerNames.l1])
               | succ k5 =>
                have H := HA.out
                clear HA
                simp only [laws_FnTrailerNames.l1] at H
                by_cases c78 : x144_5 < (x6_3.length : Int)
                ·rw [if_pos c78] at H
                 have c78b0 : decide (x144_5 < (x6_3.length : Int)) = true := decide_eq_true c78
                 clear c78
                 by_cases c79 : 0 ≤ x144_5
                 ·rw [if_pos c79] at H
                  have c79b0 : decide (0 ≤ x144_5) = true := decide_eq_true c79
                  clear c79
                  by_cases c80 : x144_5 < (x6_3.length : Int)
                  ·rw [if_pos c80] at H
                   have c80b0 : decide (x144_5 < (x6_3.length : Int)) = true := decide_eq_true c80
                   clear c80
                   by_cases c81 : x12_5.length < 8796093022208
                   ·rw [if_pos c81] at H
                    have LMc81 := Aside0.mk c81
                    clear c81
                    obtain ⟨y309, hy309⟩ : ∃ y_ : List ByteArray, y_ = (x12_5 ++ [(rd_T34 x6_3 x144_5).f0]) := ⟨_, rfl⟩
                    replace H : (laws_FnTrailerNames.l1 k5 t296 y309 x6_3 (x6_3.length : Int) (wrap64 (x144_5 + 1))) = some r := by first | (rw [hy309]; with_reducible exact H) | (have H2_ := (Option.bind_some _ _).symm.trans H; rw [hy309]; with_reducible exact H2_) | (have H2_ := (Option.bind_some _ _).symm.trans H; with_reducible exact H2_) | with_reducible exact H | (rw [hy309]; exact H) | exact H
                    have Ny309 := Aside0.mk hy309
                    clear hy309
                    have H' := Aside0.mk H
                    clear H
                    have p307 : 0 ≤ (x144_5 : Int) := of_decide_eq_true (by first | (with_reducible assumption) | assumption)
                    have q307 : x144_5 < (x6_3.length : Int) := of_decide_eq_true (by first | (with_reducible assumption) | assumption)
                    obtain ⟨ad307, e307, hx307_0, hx307_1⟩ := at_T34 (Kd.R_reads' HO_142.out).2.2 x144_5 p307 q307
                    cases e307
                    replace p307 := eq_true p307
                    replace q307 := eq_true q307
                    go_wp2_with (first | ((with_reducible refine gate_dst (N := 14) rfl ?_); (try (refine gate_guard (by rfl) ?_; dsimp only)); refine box_event ?hg (N := 14) ?hd (cs := #[.string (⟨#[]⟩ : ByteArray), .string (⟨#[]⟩ : ByteArray)]) (t := 34) ?hr ?_; (case hd => rfl); (case hg => rfl); (case hr => first | (go_simp; done) | (go_simp; rfl)); intro gb308 hg w82 hbox hb; have n0_ := Aside0.mk (Kd.S_below (Kd.S_elderB (by (with_reducible repeat (first | apply Kd.S_alloc | apply Kd.S_drewN | apply Kd.S_drew)); exact HO_9.out) gb308 (Nat.le_of_eq hg.symm)) hb); have n1_ := Aside0.mk (Kd.R_below (by (with_reducible repeat (first | apply Kd.R_alloc | apply Kd.R_drewN | apply Kd.R_drew)); exact HO_12.out) hb); have n2_ := Aside0.mk (Kd.R_below (Kd.R_elderB (by (with_reducible repeat (first | apply Kd.R_alloc | apply Kd.R_drewN | apply Kd.R_drew)); exact HO_142.out) gb308 (Nat.le_of_eq hg.symm)) hb); have n3_ := Aside0.mk (below_step (by repeat (first | (with_reducible first | exact HB.out | apply below_alloc | apply pw_below_drewN | apply below_drew1) | exact HB.out)) hb); have n4_ := Aside0.mk (hbox); have n5_ := Aside0.mk ((by rw [hg]; exact (below_size (by repeat (first | (with_reducible first | exact HB.out | apply below_alloc | apply pw_below_drewN | apply below_drew1) | exact HB.out))) : w.heap.size ≤ gb308)); have n6_ := Aside0.mk ((by rw [hg]; exact (below_size (by repeat (first | (with_reducible first | exact HB.out | apply below_alloc | apply pw_below_drewN | apply below_drew1) | exact HB.out))) : w.heap.size ≤ gb308)); clear HO_9; clear HO_12; clear HO_142; clear HB; have HO_9 := n0_; have HO_12 := n1_; have HO_142 := n2_; have HB := n3_; have BK308 := n4_; have GW308 := n5_; have GE308 := n6_; clear n0_ n1_ n2_ n3_ n4_ n5_ n6_; clear hb hbox hg; have hcz83_0 : w82.cell? ⟨gb308, 0, none⟩ = some (.string (⟨#[]⟩ : ByteArray)) := (blk_cell BK308.out 0).trans rfl; have hcz83_1 : w82.cell? ⟨gb308, 1, none⟩ = some (.string (⟨#[]⟩ : ByteArray)) := (blk_cell BK308.out 1).trans rfl; have hfz83_0 := blk_frozen BK308.out 0; have hfz83_1 := blk_frozen BK308.out 1) | ((with_reducible refine gate_builtin (b := .append) (xs := #[.tmp 148, .tmp 151]) rfl ?_); (try (refine gate_guard (by rfl) ?_; dsimp only)); at_builtin; refine Kd.R_append Kd.string (w0 := w) w.heap.size rfl (.tmp 148) (.tmp 151) 22 9 (.string ⟨#[]⟩) 16 rfl Try.underlying22 info9 rfl (by decide) (by omega) u12 x12_5 ((rd_T34 x6_3 x144_5).f0) [.string ((rd_T34 x6_3 x144_5).f0)] (fun _ => True) (fun _ => False) rfl (by first | (go_simp; done) | (go_simp; rfl)) ?aP (fun _ hk => hk.elim) ?aF ?aO ?aB ?aS ?aL ?_; (case aP => exact rfl); (case aB => exact (by repeat (first | (with_reducible first | exact HB.out | apply below_alloc | apply pw_below_drewN | apply below_drew1 | refine below_set ?_ GE308.out) | exact HB.out))); (case aF => exact (fun _ _ => trivial)); (case aO => exact (by (with_reducible repeat (first | apply Kd.R_alloc | apply Kd.R_drewN | apply Kd.R_drew)); exact Kd.R_mono (Kd.R_far (p := ⟨gb308, 1, none⟩) (Kd.R_far (p := ⟨gb308, 0, none⟩) (Kd.R_types HO_12.out BK308.out (by decide)) (fun _ hk => hk.2) (.string ((rd_T34 x6_3 x144_5).f0))) (fun _ hk => hk.2) (.string ((rd_T34 x6_3 x144_5).f1))) (fun _ hk => trivial))); (case aS => exact (below_size (by repeat (first | (with_reducible first | exact HB.out | apply below_alloc | apply pw_below_drewN | apply below_drew1 | refine below_set ?_ GE308.out) | exact HB.out)))); (case aL => have := LMc81.out; omega); intro v310 w84 ho hb hg hat; rw [← Ny309.out] at ho; have n0_ := Aside0.mk (Kd.S_after (ok := (fun k_ => some k_ ≠ (.slice (some ad307) x6_3.length co77 : Value).ownBlock ∧ k_ ≠ gb308)) (by (with_reducible repeat (first | apply Kd.S_alloc | apply Kd.S_drewN | apply Kd.S_drew)); exact Kd.S_mono (Kd.S_far (p := ⟨gb308, 1, none⟩) (Kd.S_far (p := ⟨gb308, 0, none⟩) (Kd.S_mono HO_9.out (fun k_ hk => (⟨hk, hk.2⟩ : _ ∧ k_ ≠ gb308))) (fun _ hk => hk.2) (.string ((rd_T34 x6_3 x144_5).f0))) (fun _ hk => hk.2) (.string ((rd_T34 x6_3 x144_5).f1))) (fun _ hk => ⟨⟨hk.1.1.2, hk.1.2⟩, hk.1.1.1⟩)) hg hat); have n1_ := Aside0.mk (Kd.R_over' (by (with_reducible repeat (first | apply Kd.R_alloc | apply Kd.R_drewN | apply Kd.R_drew)); exact (Kd.R_mono (Kd.R_far (p := ⟨gb308, 1, none⟩) (Kd.R_far (p := ⟨gb308, 0, none⟩) (Kd.R_mono HO_142.out (fun k_ hk => (⟨hk, hk.2⟩ : _ ∧ k_ ≠ gb308))) (fun _ hk => hk.2) (.string ((rd_T34 x6_3 x144_5).f0))) (fun _ hk => hk.2) (.string ((rd_T34 x6_3 x144_5).f1))) (fun _ h_ => h_.1))) (Kd.R_typed (by (with_reducible repeat (first | apply Kd.R_alloc | apply Kd.R_drewN | apply Kd.R_drew)); exact (Kd.R_mono (Kd.R_far (p := ⟨gb308, 1, none⟩) (Kd.R_far (p := ⟨gb308, 0, none⟩) (Kd.R_types HO_12.out BK308.out (by decide)) (fun _ hk => hk.2) (.string ((rd_T34 x6_3 x144_5).f0))) (fun _ hk => hk.2) (.string ((rd_T34 x6_3 x144_5).f1))) (fun _ h_ => h_.1)))) (by decide) hg); have n2_ := Aside0.mk (blk_grown (g := gb308) (o := .cells #[.string ((rd_T34 x6_3 x144_5).f0), .string ((rd_T34 x6_3 x144_5).f1)] 34 (0, 0)) (by (with_reducible repeat (first | refine blk_drewN ?_ _ | refine blk_drew ?_ | refine blk_alloc ?_ _)); refine blk_put (cs := #[.string ((rd_T34 x6_3 x144_5).f0), .string (⟨#[]⟩ : ByteArray)]) ?_ 1 _ rfl; (with_reducible repeat (first | refine blk_drewN ?_ _ | refine blk_drew ?_ | refine blk_alloc ?_ _)); refine blk_put (cs := #[.string (⟨#[]⟩ : ByteArray), .string (⟨#[]⟩ : ByteArray)]) ?_ 0 _ rfl; (with_reducible repeat (first | refine blk_drewN ?_ _ | refine blk_drew ?_ | refine blk_alloc ?_ _)); exact BK308.out) hg (Kd.R_ne HO_12.out BK308.out (by decide))); have n3_ := Aside0.mk (hb); have n4_ := Aside0.mk (ho); clear HO_9; clear HO_142; clear BK308; clear HB; clear HO_12; have HO_9 := n0_; have HO_142 := n1_; have BK308 := n2_; have HB := n3_; have HO311 := n4_; clear n0_ n1_ n2_ n3_ n4_; clear ho hb hg hat))
                    go_roundg k5
                    case measure => have := HJ4.out; have := HJ22.out; have := HK3.out; have := HJ44.out; have := HK5.out; omega
                    case rel => exact ⟨(y309), (wrap64 (x144_5 + 1)), (by first | rfl | (simp; done) | (rw [prx_ne]; first | done | rfl) | (simp [*]; done)), H', ⟨by have := HJ4.out; have := HJ22.out; have := HK3.out; have := HJ44.out; have := HK5.out; omega⟩, ⟨by (with_reducible repeat (first | apply Kd.S_alloc | apply Kd.S_drewN | apply Kd.S_drew)); exact Kd.S_mono HO_9.out (fun _ hk => ⟨hk.2, hk.1.1⟩)⟩, ⟨by (with_reducible repeat (first | apply Kd.R_alloc | apply Kd.R_drewN | apply Kd.R_drew)); exact HO311.out⟩, ⟨by (with_reducible repeat (first | apply Kd.R_alloc | apply Kd.R_drewN | apply Kd.R_drew)); exact Kd.R_mono HO_142.out (fun _ hk => trivial)⟩, ⟨by repeat (first | (with_reducible first | exact HB.out | apply below_alloc | apply pw_below_drewN | apply below_drew1 | refine below_set ?_ GE308.out) | exact HB.out)⟩⟩
                   ·rw [if_neg c81] at H
                    exact absurd H (by simp)
                  ·rw [if_neg c80] at H
                   exact absurd H (by simp)
                 ·rw [if_neg c79] at H
                  exact absurd H (by simp)
                ·rw [if_neg c78] at H
                 have c78b0 : decide (x144_5 < (x6_3.length : Int)) = false := decide_eq_false c78
                 clear c78
                 by_cases c85 : 2 < (t296.length : Int)
                 ·rw [if_pos c85] at H
                  have c85b0 : decide (2 < (t296.length : Int)) = true := decide_eq_true c85
                  have c85b1 : decide (2 < t296.length) = true := decide_eq_true (by omega)
                  clear c85
                  replace H := Option.bind_eq_some_iff.mp H
                  obtain ⟨t313, A860, H⟩ := H
                  replace H : (some (((rd_T32 t296 2).f0).toList == t313.toList)) = some r := H
                  have A86 := Aside0.mk A860
                  clear A860
                  obtain rfl := Option.some.inj H
                  try go_wp2
                  have n0_ := Aside0.mk (Kd.S_drew HO_9.out)
                  have n1_ := Aside0.mk (Kd.R_drew HO_12.out)
                  have n2_ := Aside0.mk (Kd.R_drew HO_142.out)
                  have n3_ := Aside0.mk (below_drew1 HB.out)
                  clear HO_9
                  clear HO_12
                  clear HO_142
                  clear HB
                  have HO_9 := n0_
                  have HO_12 := n1_
                  have HO_142 := n2_
                  have HB := n3_
                  clear n0_ n1_ n2_ n3_
                  obtain ⟨Ao88, co88, eo88⟩ := Kd.S_slice HO_9.out
                  (first | subst eo88 | (injection eo88 with f1_ f2_ f3_; have f4_ := f1_.symm; have f5_ := f3_.symm; clear f1_ f2_ f3_; subst f4_; subst f5_))
                  have p312 : 0 ≤ (2 : Int) := (by omega)
                  have q312 : 2 < (t296.length : Int) := of_decide_eq_true (by first | (with_reducible assumption) | assumption)
                  obtain ⟨ad312, A312_3, c312_3, A312_4, c312_4, e312, hx312_0, hx312_1, hx312_2, hx312_3, hx312_4, hl312_3, hi312_3, hl312_4, hi312_4⟩ := at_T32 (Kd.S_reads' HO_9.out).2.2 2 p312 q312
                  cases e312
                  obtain ⟨ce312, hce312, hMe312, hcc312⟩ := Kd.S_get HO_9.out z32 2 p312 (by first | exact q312 | exact of_decide_eq_true (by first | (with_reducible assumption) | assumption) | (have e_ := (Kd.S_reads' HO_9.out).1; omega))
                  obtain ⟨ve312_3, ve312_4, rfl, ge312_3, ge312_4⟩ := k32_openM hMe312
                  have hv312_3 := hcc312 3 _ rfl
                  rw [add_field _ _ 3 (by omega)] at hv312_3
                  replace hv312_3 := Option.some.inj (hv312_3.symm.trans hx312_3)
                  rw [hv312_3] at ge312_3
                  have HL312_3 := Aside0.mk (show Kd.R Kd.string 9 _ _ _ _ ((rd_T32 t296 2).f3) from ge312_3)
                  clear hv312_3 ge312_3
                  have hv312_4 := hcc312 4 _ rfl
                  rw [add_field _ _ 4 (by omega)] at hv312_4
                  replace hv312_4 := Option.some.inj (hv312_4.symm.trans hx312_4)
                  rw [hv312_4] at ge312_4
                  have HL312_4 := Aside0.mk (show Kd.R k34 34 _ _ _ _ ((rd_T32 t296 2).f4) from ge312_4)
                  clear hv312_4 ge312_4
                  clear hcc312 hce312
                  (try simp only [show (2 : Int).toNat = 2 from rfl, Nat.reduceMul, Nat.reduceEqDiff, Go.Addr.add, ↓reduceIte] at hx312_0)
                  (try simp only [show (2 : Int).toNat = 2 from rfl, Nat.reduceMul, Nat.reduceEqDiff, Go.Addr.add, ↓reduceIte] at hx312_1)
                  (try simp only [show (2 : Int).toNat = 2 from rfl, Nat.reduceMul, Nat.reduceEqDiff, Go.Addr.add, ↓reduceIte] at hx312_2)
                  (try simp only [show (2 : Int).toNat = 2 from rfl, Nat.reduceMul, Nat.reduceEqDiff, Go.Addr.add, ↓reduceIte] at hx312_3)
                  (try simp only [show (2 : Int).toNat = 2 from rfl, Nat.reduceMul, Nat.reduceEqDiff, Go.Addr.add, ↓reduceIte] at hx312_4)
                  have qi312 : (2 < t296.length) = True := eq_true (by omega)
                  (try rw [show ((2 : Int)).toNat = 2 from rfl] at hx312_0)
                  (try rw [show 2 * 5 = 10 from rfl] at hx312_0)
                  (try rw [show ((2 : Int)).toNat = 2 from rfl] at hx312_1)
                  (try rw [show 2 * 5 = 10 from rfl] at hx312_1)
                  (try rw [show ((2 : Int)).toNat = 2 from rfl] at hx312_2)
                  (try rw [show 2 * 5 = 10 from rfl] at hx312_2)
                  (try rw [show ((2 : Int)).toNat = 2 from rfl] at hx312_3)
                  (try rw [show 2 * 5 = 10 from rfl] at hx312_3)
                  (try rw [show ((2 : Int)).toNat = 2 from rfl] at hx312_4)
                  (try rw [show 2 * 5 = 10 from rfl] at hx312_4)
                  have HR312_3 := Aside0.mk hi312_3
                  have HC312_3 := Aside0.mk hl312_3
                  clear hi312_3 hl312_3
                  have HR312_4 := Aside0.mk hi312_4
                  have HC312_4 := Aside0.mk hl312_4
                  clear hi312_4 hl312_4
                  replace p312 := eq_true p312
                  replace q312 := eq_true q312
                  obtain ⟨Ao89, co89, eo89⟩ := Kd.R_slice HO_12.out
                  (first | subst eo89 | (injection eo89 with f1_ f2_ f3_; have f4_ := f1_.symm; have f5_ := f3_.symm; clear f1_ f2_ f3_; subst f4_; subst f5_))
                  refine start_ (n := 8) (S := fun w' => w'.cell? ⟨ad312.block, ad312.off + 10, none⟩ = some (.string ((rd_T32 t296 2).f0)) ∧ w'.cell? ⟨ad312.block, ad312.off + 10 + 1, none⟩ = some (.bool ((rd_T32 t296 2).f1)) ∧ w'.cell? ⟨ad312.block, ad312.off + 10 + 2, none⟩ = some (.int .i64 ((rd_T32 t296 2).f2)) ∧ w'.cell? ⟨ad312.block, ad312.off + 10 + 3, none⟩ = some (.slice A312_3 ((rd_T32 t296 2).f3).length c312_3) ∧ w'.cell? ⟨ad312.block, ad312.off + 10 + 4, none⟩ = some (.slice A312_4 ((rd_T32 t296 2).f4).length c312_4)) (ds := []) #[false,false,false,false,false,false,false,false] (by kernel_rfl) rfl rfl ⟨hx312_0, hx312_1, hx312_2, hx312_3, hx312_4⟩ (fun hHeld => ?_); refine with_tabW laws_FnTrailerNames.tab26 laws_FnTrailerNames.bits26 (fun HT_ HW_ => ?_)
                  generalize wr.drew = w87 at HO_9 HO_12 HO_142 HB HL312_3 HL312_4 HR312_3 HR312_4 hx312_0 hx312_1 hx312_2 hx312_3 hx312_4 hHeld ⊢
                  refine pure_ (i := 0) (N := some 154) (v := ?_) (a' := ?_) #[true,false,false,false,false,false,false,false] rfl rfl (any_of HT_.out (by kernel_rfl)) (fun _ _ _ h => h) (Or.inl ⟨by rfl, ?_⟩) ?_ ?_
                  rotate_left
                  ·intro w'
                   go_simp
                   with_reducible rfl
                  rotate_left
                  ·simp only [Act.put, List.setIfInBounds_toArray, List.set_cons_zero, List.set_cons_succ, i64_w, i32_w]
                   rfl
                  refine pure_ (i := 1) (N := some 155) (v := ?_) (a' := ?_) #[true,true,false,false,false,false,false,false] rfl rfl (any_of HT_.out (by kernel_rfl)) (fun _ _ _ h => h) (Or.inl ⟨by rfl, ?_⟩) ?_ ?_
                  rotate_left
                  ·intro w'
                   go_simp
                   with_reducible rfl
                  rotate_left
                  ·simp only [Act.put, List.setIfInBounds_toArray, List.set_cons_zero, List.set_cons_succ, i64_w, i32_w]
                   rfl
                  refine pure_ (i := 2) (N := some 156) (v := ?_) (a' := ?_) #[true,true,true,false,false,false,false,false] rfl rfl (any_of HT_.out (by kernel_rfl)) (fun _ _ _ h => h) (Or.inl ⟨by rfl, ?_⟩) ?_ ?_
                  rotate_left
                  ·intro w'
                   go_simp
                   with_reducible rfl
                  rotate_left
                  ·simp only [Act.put, List.setIfInBounds_toArray, List.set_cons_zero, List.set_cons_succ, i64_w, i32_w]
                   rfl
                  refine pure_ (i := 4) (N := some 158) (v := ?_) (a' := ?_) #[true,true,true,false,true,false,false,false] rfl rfl (any_of HT_.out (by kernel_rfl)) (fun _ _ _ h => h) (Or.inl ⟨by rfl, ?_⟩) ?_ ?_
                  rotate_left
                  ·intro w'
                   go_simp
                   with_reducible rfl
                  rotate_left
                  ·simp only [Act.put, List.setIfInBounds_toArray, List.set_cons_zero, List.set_cons_succ, i64_w, i32_w]
                   rfl
                  refine take_ (i := 3) (N := some 157) (v := ?_) (a' := ?_) #[true,true,true,true,true,false,false,false] rfl rfl (take_ofW HT_.out HW_.out (by kernel_rfl)) (fun _ _ _ h => h) (Or.inl ⟨by rfl, ?_⟩) hHeld ?_ ?_
                  rotate_left
                  ·rintro w' ⟨s0, s1, s2, s3, s4⟩
                   go_simp
                   with_reducible rfl
                  rotate_left
                  ·simp only [Act.put, List.setIfInBounds_toArray, List.set_cons_zero, List.set_cons_succ, i64_w, i32_w]
                   rfl
                  refine one_ (i := 5) (N := some 159) #[true,true,true,true,true,true,false,false] rfl rfl (one_of HT_.out (by kernel_rfl)) (by decide) (fun K hK => ?_)
                  refine goes_ Try.func13 (by kernel_rfl) rfl #[.slice Ao89 x12_5.length co89, .string (⟨#[44, 32]⟩ : ByteArray)] (by rfl) rfl rfl (by (try simp only [List.map_toArray, List.map_cons, List.map_nil]); first | done | rfl | (simp only [List.length_drop, List.length_take]; rfl)) ?_
                  with_reducible refine (laws_joined.calls k5 _ _ x12_5 (⟨#[44, 32]⟩ : ByteArray) t313 _ ?side1 ?side2 A86.out).mono ?_
                  (case side1 => repeat (first | exact (Kd.R_reads' HO_12.out).2.2 | (with_reducible refine Kd.C_alloc ?_ _) | (with_reducible refine Kd.C_drewN ?_ _) | (with_reducible refine Kd.C_drew ?_)))
                  (case side2 => exact (Kd.R_reads' HO_12.out).2.1)
                  rintro e w' ⟨rfl, ⟨nd, rfl⟩⟩
                  refine ⟨_, rfl, ?_⟩
                  refine hK.out _ _ ⟨hHeld.1, hHeld.2.1, hHeld.2.2.1, hHeld.2.2.2.1, hHeld.2.2.2.2⟩ (fun hHeld => ?_)
                  clear hK K
                  refine norm_ (a' := ?_) ?_ ?_
                  rotate_left
                  ·show Act.put _ (some 159) _ = _
                   simp only [Act.put, List.setIfInBounds_toArray, List.set_cons_zero, List.set_cons_succ, i64_w, i32_w]
                   rfl
                  refine pure_ (i := 6) (N := some 160) (v := ?_) (a' := ?_) #[true,true,true,true,true,true,true,false] rfl rfl (any_of HT_.out (by kernel_rfl)) (fun _ _ _ h => h) (Or.inl ⟨by rfl, ?_⟩) ?_ ?_
                  rotate_left
                  ·intro w'
                   go_simp
                   with_reducible rfl
                  rotate_left
                  ·simp only [Act.put, List.setIfInBounds_toArray, List.set_cons_zero, List.set_cons_succ, i64_w, i32_w]
                   rfl
                  refine pure_ (i := 7) (N := some 2) (v := ?_) (a' := ?_) #[true,true,true,true,true,true,true,true] rfl rfl (any_of HT_.out (by kernel_rfl)) (fun _ _ _ h => h) (Or.inl ⟨by rfl, ?_⟩) ?_ ?_
                  rotate_left
                  ·intro w'
                   go_simp
                   with_reducible rfl
                  rotate_left
                  ·simp only [Act.put, List.setIfInBounds_toArray, List.set_cons_zero, List.set_cons_succ, i64_w, i32_w]
                   rfl
                  refine done_ (done_of HT_.out (by kernel_rfl)) ?_
                  try go_wp2
                  go_ret
                  exact ⟨by first | rfl | (simp [errW_none, errW_some] <;> rfl) | (simp [*, errW_none, errW_some] <;> rfl), by repeat (first | (with_reducible first | exact HB.out | apply below_alloc | apply pw_below_drewN | apply below_drew1) | exact HB.out)⟩
                 ·rw [if_neg c85] at H
                  exact absurd H (by simp)
 ·replace c3 := Bool.eq_false_iff.mpr c3
  subst c3
  have H1 : (some true) = some r := by rw [if_neg (show ¬ (false = true) by decide)] at H; exact H
  clear H
  have H := H1
  clear H1
  obtain rfl := Option.some.inj H
  go_enter Try.func3, Try.ntmps3
  go_wp2_with (first | ((with_reducible refine gate_callee (f := 8) rfl ?_); refine goesL_ (some 16) rfl rfl Try.func8 (by kernel_rfl) rfl #[.slice A0 l0.length c0] rfl (by (try simp only [List.map_toArray, List.map_cons, List.map_nil]); first | done | rfl | (simp only [List.length_drop, List.length_take]; rfl)) ?_; (with_reducible refine (laws_zzFits6.calls k _ _ l0 false _ ?side1 ?side2 A2.out).mono ?_); (case side1 => repeat (first | exact HR0.out | (with_reducible refine Kd.C_alloc ?_ _) | (with_reducible refine Kd.C_drewN ?_ _) | (with_reducible refine Kd.C_drew ?_))); (case side2 => exact HC0.out); rintro e w' ⟨rfl, ⟨nd, rfl⟩⟩; refine ⟨_, rfl, ?_⟩))
  go_ret
  exact ⟨by first | rfl | (simp [errW_none, errW_some] <;> rfl) | (simp [*, errW_none, errW_some] <;> rfl), by repeat (first | (with_reducible first | exact HB.out | apply below_alloc | apply pw_below_drewN | apply below_drew1) | exact HB.out)⟩
def laws_FnTrailerNames.Pure : Prop := ∀ (l0 : List ByteArray), l0.length * 16 ≤ 140737488351232 → ∃ k, laws_FnTrailerNames.f k l0 = some true
theorem laws_FnTrailerNames.walk (P : laws_FnTrailerNames.Pure) (a0 : Option Addr) (cap0 : Nat) (l0 : List ByteArray) (w : World) (w0 : Kd.C Kd.string w a0 l0.length l0) (y0 : l0.length ≤ cap0) (m0 : l0.length * 16 ≤ 140737488351232) :
    Calls Try.prog 3 #[.slice a0 l0.length cap0] w fun e w' => e = .returned (.bool true) ∧ Below w.heap.size w w' := by
  obtain ⟨k, h⟩ := P l0 m0
  refine (laws_FnTrailerNames.calls k _ _ l0 true w w0 y0 h).mono ?_
  rintro e w' ⟨rfl, hd⟩
  exact ⟨rfl, hd⟩
end Go.Proofs.Ytoimkmoalmmooaa.QA
