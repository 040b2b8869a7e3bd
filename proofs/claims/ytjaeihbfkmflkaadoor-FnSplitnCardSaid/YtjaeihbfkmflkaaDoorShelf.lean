/- Contracts of Go's library, laid by the kit's shelf tools at this translation: each is one application of a theorem of the kit's library. -/
import Derived.Shelf.Strconv.Itoa0
import Derived.Shelf.Strconv.Itoa1
import Derived.Shelf.LaysM
import Derived.Shelf.Strconv.Itoa2
import Derived.Shelf.Strconv.Itoa3
import Derived.Shelf.Sort.Plain
import Derived.Shelf.Unicode.DecodeSlow
import Derived.Shelf.Slices.In.SortNone
import Derived.Shelf.Slices.In.SortNone2
import Derived.Test.YtjaeihbfkmflkaaDoorProg
namespace Go.Proofs
open Go.Shelf
def Tryd.laysM171_ren : Go.Shelf.Ren := ⟨fun | 171 => 53 | 243 => 60 | 246 => 66 | 283 => 79 | 284 => 80 | 285 => 81 | 286 => 82 | 129 => 78 | 317 => 89 | 318 => 90 | 319 => 91 | 320 => 92 | 337 => 94 | 338 => 95 | n => n, fun | 3 => 3 | 9 => 9 | 2 => 2 | 4 => 4 | 171 => 131 | 0 => 0 | 53 => 130 | 37 => 94 | 5 => 5 | 173 => 133 | 212 => 143 | 51 => 69 | 20 => 20 | 213 => 144 | 46 => 108 | 232 => 149 | 233 => 150 | n => n, fun | 17 => 3 | 18 => 4 | 19 => 5 | n => n⟩
theorem Tryd.laysM171 : Go.Proofs.LaysM.n171 Tryd.prog Tryd.laysM171_ren := {
  mixed := by kernel_rfl
  f129 := Tryd.func78.trans (congrArg some (by kernel_rfl))
  f171 := Tryd.func53.trans (congrArg some (by kernel_rfl))
  f243 := Tryd.func60.trans (congrArg some (by kernel_rfl))
  f246 := Tryd.func66.trans (congrArg some (by kernel_rfl))
  f283 := Tryd.func79.trans (congrArg some (by kernel_rfl))
  f284 := Tryd.func80.trans (congrArg some (by kernel_rfl))
  f285 := Tryd.func81.trans (congrArg some (by kernel_rfl))
  f286 := Tryd.func82.trans (congrArg some (by kernel_rfl))
  f317 := Tryd.func89.trans (congrArg some (by kernel_rfl))
  f318 := Tryd.func90.trans (congrArg some (by kernel_rfl))
  f319 := Tryd.func91.trans (congrArg some (by kernel_rfl))
  f320 := Tryd.func92.trans (congrArg some (by kernel_rfl))
  f337 := Tryd.func94.trans (congrArg some (by kernel_rfl))
  f338 := Tryd.func95.trans (congrArg some (by kernel_rfl))
  t0 := Tryd.underlying0
  a0 := Tryd.isAgg0
  z0 := Tryd.sizeOf0
  v0 := Tryd.zeroValue0
  t2 := Tryd.underlying2
  a2 := Tryd.isAgg2
  z2 := Tryd.sizeOf2
  v2 := Tryd.zeroValue2
  t3 := Tryd.underlying3
  a3 := Tryd.isAgg3
  z3 := Tryd.sizeOf3
  v3 := Tryd.zeroValue3
  t4 := Tryd.underlying4
  a4 := Tryd.isAgg4
  z4 := Tryd.sizeOf4
  v4 := Tryd.zeroValue4
  t5 := Tryd.underlying5
  a5 := Tryd.isAgg5
  z5 := Tryd.sizeOf5
  v5 := Tryd.zeroValue5
  t9 := Tryd.underlying9
  a9 := Tryd.isAgg9
  z9 := Tryd.sizeOf9
  v9 := Tryd.zeroValue9
  t20 := Tryd.underlying20
  a20 := Tryd.isAgg20
  z20 := Tryd.sizeOf20
  v20 := Tryd.zeroValue20
  t37 := Tryd.underlying94
  a37 := Tryd.isAgg94
  z37 := Tryd.sizeOf94
  v37 := Tryd.zeroValue94
  t46 := Tryd.underlying108
  a46 := Tryd.isAgg108
  z46 := Tryd.sizeOf108
  v46 := Tryd.zeroValue108
  t51 := Tryd.underlying69
  a51 := Tryd.isAgg69
  z51 := Tryd.sizeOf69
  v51 := Tryd.zeroValue69
  t53 := Tryd.underlying130
  a53 := Tryd.isAgg130
  z53 := Tryd.sizeOf130
  v53 := Tryd.zeroValue130
  t171 := Tryd.underlying131
  a171 := Tryd.isAgg131
  z171 := Tryd.sizeOf131
  v171 := Tryd.zeroValue131
  t173 := Tryd.underlying133
  a173 := Tryd.isAgg133
  z173 := Tryd.sizeOf133
  v173 := Tryd.zeroValue133
  t212 := Tryd.underlying143
  a212 := Tryd.isAgg143
  z212 := Tryd.sizeOf143
  v212 := Tryd.zeroValue143
  t213 := Tryd.underlying144
  a213 := Tryd.isAgg144
  z213 := Tryd.sizeOf144
  t232 := Tryd.underlying149
  a232 := Tryd.isAgg149
  z232 := Tryd.sizeOf149
  v232 := Tryd.zeroValue149
  t233 := Tryd.underlying150
  a233 := Tryd.isAgg150
  z233 := Tryd.sizeOf150
  v233 := Tryd.zeroValue150
  g17 := by kernel_rfl
  g18 := by kernel_rfl
  g19 := by kernel_rfl
  i0 := by kernel_rfl
  i2 := by kernel_rfl
  i3 := by kernel_rfl
  i4 := by kernel_rfl
  i5 := by kernel_rfl
  i9 := by kernel_rfl
  i20 := by kernel_rfl
  i37 := by kernel_rfl
  i46 := by kernel_rfl
  i51 := by kernel_rfl
  i53 := by kernel_rfl
  i171 := by kernel_rfl
  i173 := by kernel_rfl
  i212 := by kernel_rfl
  i232 := by kernel_rfl
  i233 := by kernel_rfl
  m17 := by kernel_rfl
  m18 := by kernel_rfl
  m19 := by kernel_rfl }
open Go.RowKit Go.Sort Go.Lib in
theorem Tryd.strconv_Itoa (n : Int) (h0 : -9223372036854775808 ≤ n) (h1 : n ≤ 9223372036854775807) (w : World) (htab : Lib.TabIs Tryd.prog w "internal/strconv.uint64pow10" .u64 Lib.pow10Tab) :
    Calls Tryd.prog 53 #[.int .i64 n] w fun e w' => e = .returned (.string ⟨(Lib.itoa n).toArray⟩) ∧ ∃ k os, w' = grow (w.drewN k) os := Any.strconv_Itoa Tryd.laysM171 n h0 h1 w htab
end Go.Proofs
