/- Texts of this claim, one behind the other (merged by wip/prune.py of this repo, without what the proof does not use): ShItoa. -/
import Derived.Shelf.Strconv.Itoa3
import Derived.Test.YtgmjaggkiifdjaaDoorProg
set_option linter.unusedVariables false
set_option linter.unusedSimpArgs false
namespace Go.Proofs.YtgmjaggkiifdjaaDoor.Given
open Go.Shelf Go.RowKit Go.Lib
def sh_laysM171_ren : Go.Shelf.Ren := ⟨fun | 171 => 77 | 243 => 91 | 246 => 105 | 283 => 116 | 284 => 117 | 285 => 118 | 286 => 119 | 129 => 127 | 317 => 126 | 318 => 128 | 319 => 129 | 320 => 130 | 337 => 134 | 338 => 135 | n => n, fun | 3 => 3 | 9 => 9 | 2 => 2 | 4 => 4 | 171 => 95 | 0 => 0 | 53 => 84 | 37 => 49 | 5 => 5 | 173 => 98 | 212 => 111 | 51 => 106 | 20 => 20 | 213 => 112 | 46 => 83 | 232 => 126 | 233 => 127 | n => n, fun | 17 => 3 | 18 => 6 | 19 => 7 | n => n⟩
theorem sh_laysM171 : Go.Proofs.LaysM.n171 Tryd.prog sh_laysM171_ren := {
  mixed := by kernel_rfl
  f129 := Tryd.func127.trans (congrArg some (by kernel_rfl))
  f171 := Tryd.func77.trans (congrArg some (by kernel_rfl))
  f243 := Tryd.func91.trans (congrArg some (by kernel_rfl))
  f246 := Tryd.func105.trans (congrArg some (by kernel_rfl))
  f283 := Tryd.func116.trans (congrArg some (by kernel_rfl))
  f284 := Tryd.func117.trans (congrArg some (by kernel_rfl))
  f285 := Tryd.func118.trans (congrArg some (by kernel_rfl))
  f286 := Tryd.func119.trans (congrArg some (by kernel_rfl))
  f317 := Tryd.func126.trans (congrArg some (by kernel_rfl))
  f318 := Tryd.func128.trans (congrArg some (by kernel_rfl))
  f319 := Tryd.func129.trans (congrArg some (by kernel_rfl))
  f320 := Tryd.func130.trans (congrArg some (by kernel_rfl))
  f337 := Tryd.func134.trans (congrArg some (by kernel_rfl))
  f338 := Tryd.func135.trans (congrArg some (by kernel_rfl))
  t0 := Tryd.underlying0
  a0 := Tryd.isAgg0
  z0 := Tryd.sizeOf0
  v0 := Tryd.zeroValue0
  t2 := Tryd.underlying2
  a2 := Tryd.isAgg2
  z2 := Tryd.sizeOf2
  v2 := Tryd.zeroValue2
  t3 := Tryd.underlying3
  a3 := Tryd.isAgg3
  z3 := Tryd.sizeOf3
  v3 := Tryd.zeroValue3
  t4 := Tryd.underlying4
  a4 := Tryd.isAgg4
  z4 := Tryd.sizeOf4
  v4 := Tryd.zeroValue4
  t5 := Tryd.underlying5
  a5 := Tryd.isAgg5
  z5 := Tryd.sizeOf5
  v5 := Tryd.zeroValue5
  t9 := Tryd.underlying9
  a9 := Tryd.isAgg9
  z9 := Tryd.sizeOf9
  v9 := Tryd.zeroValue9
  t20 := Tryd.underlying20
  a20 := Tryd.isAgg20
  z20 := Tryd.sizeOf20
  v20 := Tryd.zeroValue20
  t37 := Tryd.underlying49
  a37 := Tryd.isAgg49
  z37 := Tryd.sizeOf49
  v37 := Tryd.zeroValue49
  t46 := Tryd.underlying83
  a46 := Tryd.isAgg83
  z46 := Tryd.sizeOf83
  v46 := Tryd.zeroValue83
  t51 := Tryd.underlying106
  a51 := Tryd.isAgg106
  z51 := Tryd.sizeOf106
  v51 := Tryd.zeroValue106
  t53 := Tryd.underlying84
  a53 := Tryd.isAgg84
  z53 := Tryd.sizeOf84
  v53 := Tryd.zeroValue84
  t171 := Tryd.underlying95
  a171 := Tryd.isAgg95
  z171 := Tryd.sizeOf95
  v171 := Tryd.zeroValue95
  t173 := Tryd.underlying98
  a173 := Tryd.isAgg98
  z173 := Tryd.sizeOf98
  v173 := Tryd.zeroValue98
  t212 := Tryd.underlying111
  a212 := Tryd.isAgg111
  z212 := Tryd.sizeOf111
  v212 := Tryd.zeroValue111
  t213 := Tryd.underlying112
  a213 := Tryd.isAgg112
  z213 := Tryd.sizeOf112
  t232 := Tryd.underlying126
  a232 := Tryd.isAgg126
  z232 := Tryd.sizeOf126
  v232 := Tryd.zeroValue126
  t233 := Tryd.underlying127
  a233 := Tryd.isAgg127
  z233 := Tryd.sizeOf127
  v233 := Tryd.zeroValue127
  g17 := by kernel_rfl
  g18 := by kernel_rfl
  g19 := by kernel_rfl
  i0 := by kernel_rfl
  i2 := by kernel_rfl
  i3 := by kernel_rfl
  i4 := by kernel_rfl
  i5 := by kernel_rfl
  i9 := by kernel_rfl
  i20 := by kernel_rfl
  i37 := by kernel_rfl
  i46 := by kernel_rfl
  i51 := by kernel_rfl
  i53 := by kernel_rfl
  i171 := by kernel_rfl
  i173 := by kernel_rfl
  i212 := by kernel_rfl
  i232 := by kernel_rfl
  i233 := by kernel_rfl
  m17 := by kernel_rfl
  m18 := by kernel_rfl
  m19 := by kernel_rfl }
open Go.RowKit Go.Sort Go.Lib in
theorem sh_strconv_Itoa (n : Int) (h0 : -9223372036854775808 ≤ n) (h1 : n ≤ 9223372036854775807) (w : World) (htab : Lib.TabIs Tryd.prog w "internal/strconv.uint64pow10" .u64 Lib.pow10Tab) :
    Calls Tryd.prog 77 #[.int .i64 n] w fun e w' => e = .returned (.string ⟨(Lib.itoa n).toArray⟩) ∧ ∃ k os, w' = grow (w.drewN k) os := Any.strconv_Itoa sh_laysM171 n h0 h1 w htab
end Go.Proofs.YtgmjaggkiifdjaaDoor.Given
