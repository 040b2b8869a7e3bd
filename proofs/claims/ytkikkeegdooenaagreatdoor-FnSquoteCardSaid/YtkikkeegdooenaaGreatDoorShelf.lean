/- Contracts of Go's library, laid by the kit's shelf tools at this translation: each is one application of a theorem of the kit's library. -/
import Derived.Shelf.Strings.Builder1
import Derived.Shelf.Strings.Builder2
import Derived.Shelf.Strings.OnBuilder
import Derived.Shelf.Small.Bits
import Derived.Shelf.Small.Wraps
import Derived.Shelf.Strings.BuilderF
import Derived.Shelf.Strings.BuilderK
import Derived.Shelf.Strings.Builder2Cap
import Derived.Shelf.Strconv.Itoa0
import Derived.Shelf.Strconv.Itoa1
import Derived.Shelf.LaysM
import Derived.Shelf.Strconv.Itoa2
import Derived.Shelf.Strconv.Itoa3
import Derived.Shelf.Strconv.Itoa4
import Derived.Shelf.Strconv.Lower
import Derived.Shelf.Sort.Plain
import Derived.Shelf.Strconv.AppendUint10
import Derived.Shelf.Strconv.AppendInt10
import Derived.Shelf.Unicode.Decode
import Derived.Shelf.Bits.Mul64
import Derived.Shelf.Unicode.DecodeSlow
import Derived.Shelf.Unicode.DecodeAny
import Derived.Shelf.Strings.BuilderCap
import Derived.Shelf.Slices.In.SortNone
import Derived.Shelf.Slices.In.SortNone2
import Derived.Test.YtkikkeegdooenaaGreatDoorProg
namespace Go.Proofs
open Go.Shelf
def Tryz.lays156_ren : Go.Shelf.Ren := ⟨fun | 156 => 31 | 165 => 36 | 166 => 37 | 169 => 38 | 240 => 47 | 241 => 48 | 276 => 54 | 277 => 55 | n => n, fun | 31 => 23 | 9 => 9 | 3 => 3 | 4 => 4 | 0 => 0 | 20 => 20 | 72 => 65 | 76 => 69 | 70 => 63 | 37 => 58 | 75 => 68 | 127 => 78 | 164 => 84 | 5 => 5 | 80 => 71 | n => n, fun | n => n⟩
theorem Tryz.lays156 : Go.Proofs.Lays.n156 Tryz.prog Tryz.lays156_ren := {
  mixed := by kernel_rfl
  f156 := Tryz.func31.trans (congrArg some (by kernel_rfl))
  f165 := Tryz.func36.trans (congrArg some (by kernel_rfl))
  f166 := Tryz.func37.trans (congrArg some (by kernel_rfl))
  f169 := Tryz.func38.trans (congrArg some (by kernel_rfl))
  f240 := Tryz.func47.trans (congrArg some (by kernel_rfl))
  f241 := Tryz.func48.trans (congrArg some (by kernel_rfl))
  f276 := Tryz.func54.trans (congrArg some (by kernel_rfl))
  f277 := Tryz.func55.trans (congrArg some (by kernel_rfl))
  t0 := Tryz.underlying0
  a0 := Tryz.isAgg0
  z0 := Tryz.sizeOf0
  v0 := Tryz.zeroValue0
  t3 := Tryz.underlying3
  a3 := Tryz.isAgg3
  z3 := Tryz.sizeOf3
  v3 := Tryz.zeroValue3
  t4 := Tryz.underlying4
  a4 := Tryz.isAgg4
  z4 := Tryz.sizeOf4
  v4 := Tryz.zeroValue4
  t9 := Tryz.underlying9
  a9 := Tryz.isAgg9
  z9 := Tryz.sizeOf9
  v9 := Tryz.zeroValue9
  t20 := Tryz.underlying20
  a20 := Tryz.isAgg20
  z20 := Tryz.sizeOf20
  v20 := Tryz.zeroValue20
  t31 := Tryz.underlying23
  a31 := Tryz.isAgg23
  z31 := Tryz.sizeOf23
  v31 := Tryz.zeroValue23
  t37 := Tryz.underlying58
  a37 := Tryz.isAgg58
  z37 := Tryz.sizeOf58
  v37 := Tryz.zeroValue58
  t70 := Tryz.underlying63
  a70 := Tryz.isAgg63
  z70 := Tryz.sizeOf63
  v70 := Tryz.zeroValue63
  t72 := Tryz.underlying65
  a72 := Tryz.isAgg65
  z72 := Tryz.sizeOf65
  v72 := Tryz.zeroValue65
  t75 := Tryz.underlying68
  a75 := Tryz.isAgg68
  z75 := Tryz.sizeOf68
  v75 := Tryz.zeroValue68
  t76 := Tryz.underlying69
  a76 := Tryz.isAgg69
  z76 := Tryz.sizeOf69
  v76 := Tryz.zeroValue69
  t127 := Tryz.underlying78
  a127 := Tryz.isAgg78
  z127 := Tryz.sizeOf78
  v127 := Tryz.zeroValue78
  t164 := Tryz.underlying84
  a164 := Tryz.isAgg84
  z164 := Tryz.sizeOf84
  v164 := Tryz.zeroValue84 }
theorem Tryz.Builder_Extra_156 : Builder.Extra Tryz.prog Tryz.lays156_ren := {
  sizeBuilder := by kernel_rfl
  liesBuilder := by kernel_rfl
  t5 := Tryz.underlying5
  a5 := Tryz.isAgg5
  z5 := Tryz.sizeOf5
  v5 := Tryz.zeroValue5
  infoByte := by kernel_rfl
  cellsByte := by kernel_rfl
  sizeByte := by kernel_rfl
  neB5 := by decide }
open Go.RowKit in
theorem Tryz.strings_Join (bk o c : Nat) (xs : List ByteArray) (sep : ByteArray) (w : World) (hcells : ∀ (j : Nat) x, xs[j]? = some x → w.cell? ⟨bk, o + j, none⟩ = some (.string x)) (hbk : bk < w.heap.size) (hN : xs.length ≤ 140737488355328) (hcap : xs.length ≤ c) (hlen : (Lib.join (xs.map (·.data.toList)) sep.data.toList).length ≤ 140737488355328) :
    Calls Tryz.prog 31 #[.slice (some ⟨bk, o, none⟩) xs.length c, .string sep] w fun e w' => e = .returned (.string ⟨(Lib.join (xs.map (·.data.toList)) sep.data.toList).toArray⟩) ∧ Below w.heap.size w w' := Any.strings_Join Tryz.lays156 Tryz.Builder_Extra_156 bk o c xs sep w hcells hbk hN hcap hlen
def Tryz.laysM171_ren : Go.Shelf.Ren := ⟨fun | 171 => 41 | 243 => 50 | 246 => 51 | 283 => 56 | 284 => 57 | 285 => 58 | 286 => 59 | 129 => 65 | 317 => 64 | 318 => 66 | 319 => 67 | 320 => 68 | 337 => 91 | 338 => 92 | n => n, fun | 3 => 3 | 9 => 9 | 2 => 2 | 4 => 4 | 171 => 87 | 0 => 0 | 53 => 88 | 37 => 58 | 5 => 5 | 173 => 91 | 212 => 100 | 51 => 101 | 20 => 20 | 213 => 102 | 46 => 80 | 232 => 109 | 233 => 149 | n => n, fun | 17 => 3 | 18 => 5 | 19 => 6 | n => n⟩
theorem Tryz.laysM171 : Go.Proofs.LaysM.n171 Tryz.prog Tryz.laysM171_ren := {
  mixed := by kernel_rfl
  f129 := Tryz.func65.trans (congrArg some (by kernel_rfl))
  f171 := Tryz.func41.trans (congrArg some (by kernel_rfl))
  f243 := Tryz.func50.trans (congrArg some (by kernel_rfl))
  f246 := Tryz.func51.trans (congrArg some (by kernel_rfl))
  f283 := Tryz.func56.trans (congrArg some (by kernel_rfl))
  f284 := Tryz.func57.trans (congrArg some (by kernel_rfl))
  f285 := Tryz.func58.trans (congrArg some (by kernel_rfl))
  f286 := Tryz.func59.trans (congrArg some (by kernel_rfl))
  f317 := Tryz.func64.trans (congrArg some (by kernel_rfl))
  f318 := Tryz.func66.trans (congrArg some (by kernel_rfl))
  f319 := Tryz.func67.trans (congrArg some (by kernel_rfl))
  f320 := Tryz.func68.trans (congrArg some (by kernel_rfl))
  f337 := Tryz.func91.trans (congrArg some (by kernel_rfl))
  f338 := Tryz.func92.trans (congrArg some (by kernel_rfl))
  t0 := Tryz.underlying0
  a0 := Tryz.isAgg0
  z0 := Tryz.sizeOf0
  v0 := Tryz.zeroValue0
  t2 := Tryz.underlying2
  a2 := Tryz.isAgg2
  z2 := Tryz.sizeOf2
  v2 := Tryz.zeroValue2
  t3 := Tryz.underlying3
  a3 := Tryz.isAgg3
  z3 := Tryz.sizeOf3
  v3 := Tryz.zeroValue3
  t4 := Tryz.underlying4
  a4 := Tryz.isAgg4
  z4 := Tryz.sizeOf4
  v4 := Tryz.zeroValue4
  t5 := Tryz.underlying5
  a5 := Tryz.isAgg5
  z5 := Tryz.sizeOf5
  v5 := Tryz.zeroValue5
  t9 := Tryz.underlying9
  a9 := Tryz.isAgg9
  z9 := Tryz.sizeOf9
  v9 := Tryz.zeroValue9
  t20 := Tryz.underlying20
  a20 := Tryz.isAgg20
  z20 := Tryz.sizeOf20
  v20 := Tryz.zeroValue20
  t37 := Tryz.underlying58
  a37 := Tryz.isAgg58
  z37 := Tryz.sizeOf58
  v37 := Tryz.zeroValue58
  t46 := Tryz.underlying80
  a46 := Tryz.isAgg80
  z46 := Tryz.sizeOf80
  v46 := Tryz.zeroValue80
  t51 := Tryz.underlying101
  a51 := Tryz.isAgg101
  z51 := Tryz.sizeOf101
  v51 := Tryz.zeroValue101
  t53 := Tryz.underlying88
  a53 := Tryz.isAgg88
  z53 := Tryz.sizeOf88
  v53 := Tryz.zeroValue88
  t171 := Tryz.underlying87
  a171 := Tryz.isAgg87
  z171 := Tryz.sizeOf87
  v171 := Tryz.zeroValue87
  t173 := Tryz.underlying91
  a173 := Tryz.isAgg91
  z173 := Tryz.sizeOf91
  v173 := Tryz.zeroValue91
  t212 := Tryz.underlying100
  a212 := Tryz.isAgg100
  z212 := Tryz.sizeOf100
  v212 := Tryz.zeroValue100
  t213 := Tryz.underlying102
  a213 := Tryz.isAgg102
  z213 := Tryz.sizeOf102
  t232 := Tryz.underlying109
  a232 := Tryz.isAgg109
  z232 := Tryz.sizeOf109
  v232 := Tryz.zeroValue109
  t233 := Tryz.underlying149
  a233 := Tryz.isAgg149
  z233 := Tryz.sizeOf149
  v233 := Tryz.zeroValue149
  g17 := by kernel_rfl
  g18 := by kernel_rfl
  g19 := by kernel_rfl
  i0 := by kernel_rfl
  i2 := by kernel_rfl
  i3 := by kernel_rfl
  i4 := by kernel_rfl
  i5 := by kernel_rfl
  i9 := by kernel_rfl
  i20 := by kernel_rfl
  i37 := by kernel_rfl
  i46 := by kernel_rfl
  i51 := by kernel_rfl
  i53 := by kernel_rfl
  i171 := by kernel_rfl
  i173 := by kernel_rfl
  i212 := by kernel_rfl
  i232 := by kernel_rfl
  i233 := by kernel_rfl
  m17 := by kernel_rfl
  m18 := by kernel_rfl
  m19 := by kernel_rfl }
open Go.RowKit Go.Sort Go.Lib in
theorem Tryz.strconv_Itoa (n : Int) (h0 : -9223372036854775808 ≤ n) (h1 : n ≤ 9223372036854775807) (w : World) (htab : Lib.TabIs Tryz.prog w "internal/strconv.uint64pow10" .u64 Lib.pow10Tab) :
    Calls Tryz.prog 41 #[.int .i64 n] w fun e w' => e = .returned (.string ⟨(Lib.itoa n).toArray⟩) ∧ ∃ k os, w' = grow (w.drewN k) os := Any.strconv_Itoa Tryz.laysM171 n h0 h1 w htab
def Tryz.laysM173_ren : Go.Shelf.Ren := ⟨fun | 173 => 42 | 246 => 51 | 283 => 56 | 284 => 57 | 285 => 58 | 286 => 59 | 129 => 65 | 317 => 64 | 318 => 66 | 319 => 67 | 320 => 68 | 337 => 91 | 338 => 92 | n => n, fun | 2 => 2 | 3 => 3 | 9 => 9 | 4 => 4 | 171 => 87 | 0 => 0 | 53 => 88 | 37 => 58 | 5 => 5 | 173 => 91 | 212 => 100 | 51 => 101 | 20 => 20 | 213 => 102 | 46 => 80 | 232 => 109 | 233 => 149 | n => n, fun | 17 => 3 | 18 => 5 | 19 => 6 | n => n⟩
theorem Tryz.laysM173 : Go.Proofs.LaysM.n173 Tryz.prog Tryz.laysM173_ren := {
  mixed := by kernel_rfl
  f129 := Tryz.func65.trans (congrArg some (by kernel_rfl))
  f173 := Tryz.func42.trans (congrArg some (by kernel_rfl))
  f246 := Tryz.func51.trans (congrArg some (by kernel_rfl))
  f283 := Tryz.func56.trans (congrArg some (by kernel_rfl))
  f284 := Tryz.func57.trans (congrArg some (by kernel_rfl))
  f285 := Tryz.func58.trans (congrArg some (by kernel_rfl))
  f286 := Tryz.func59.trans (congrArg some (by kernel_rfl))
  f317 := Tryz.func64.trans (congrArg some (by kernel_rfl))
  f318 := Tryz.func66.trans (congrArg some (by kernel_rfl))
  f319 := Tryz.func67.trans (congrArg some (by kernel_rfl))
  f320 := Tryz.func68.trans (congrArg some (by kernel_rfl))
  f337 := Tryz.func91.trans (congrArg some (by kernel_rfl))
  f338 := Tryz.func92.trans (congrArg some (by kernel_rfl))
  t0 := Tryz.underlying0
  a0 := Tryz.isAgg0
  z0 := Tryz.sizeOf0
  v0 := Tryz.zeroValue0
  t2 := Tryz.underlying2
  a2 := Tryz.isAgg2
  z2 := Tryz.sizeOf2
  v2 := Tryz.zeroValue2
  t3 := Tryz.underlying3
  a3 := Tryz.isAgg3
  z3 := Tryz.sizeOf3
  v3 := Tryz.zeroValue3
  t4 := Tryz.underlying4
  a4 := Tryz.isAgg4
  z4 := Tryz.sizeOf4
  v4 := Tryz.zeroValue4
  t5 := Tryz.underlying5
  a5 := Tryz.isAgg5
  z5 := Tryz.sizeOf5
  v5 := Tryz.zeroValue5
  t9 := Tryz.underlying9
  a9 := Tryz.isAgg9
  z9 := Tryz.sizeOf9
  v9 := Tryz.zeroValue9
  t20 := Tryz.underlying20
  a20 := Tryz.isAgg20
  z20 := Tryz.sizeOf20
  v20 := Tryz.zeroValue20
  t37 := Tryz.underlying58
  a37 := Tryz.isAgg58
  z37 := Tryz.sizeOf58
  v37 := Tryz.zeroValue58
  t46 := Tryz.underlying80
  a46 := Tryz.isAgg80
  z46 := Tryz.sizeOf80
  v46 := Tryz.zeroValue80
  t51 := Tryz.underlying101
  a51 := Tryz.isAgg101
  z51 := Tryz.sizeOf101
  v51 := Tryz.zeroValue101
  t53 := Tryz.underlying88
  a53 := Tryz.isAgg88
  z53 := Tryz.sizeOf88
  v53 := Tryz.zeroValue88
  t171 := Tryz.underlying87
  a171 := Tryz.isAgg87
  z171 := Tryz.sizeOf87
  v171 := Tryz.zeroValue87
  t173 := Tryz.underlying91
  a173 := Tryz.isAgg91
  z173 := Tryz.sizeOf91
  v173 := Tryz.zeroValue91
  t212 := Tryz.underlying100
  a212 := Tryz.isAgg100
  z212 := Tryz.sizeOf100
  v212 := Tryz.zeroValue100
  t213 := Tryz.underlying102
  a213 := Tryz.isAgg102
  z213 := Tryz.sizeOf102
  t232 := Tryz.underlying109
  a232 := Tryz.isAgg109
  z232 := Tryz.sizeOf109
  v232 := Tryz.zeroValue109
  t233 := Tryz.underlying149
  a233 := Tryz.isAgg149
  z233 := Tryz.sizeOf149
  v233 := Tryz.zeroValue149
  g17 := by kernel_rfl
  g18 := by kernel_rfl
  g19 := by kernel_rfl
  i0 := by kernel_rfl
  i2 := by kernel_rfl
  i3 := by kernel_rfl
  i4 := by kernel_rfl
  i5 := by kernel_rfl
  i9 := by kernel_rfl
  i20 := by kernel_rfl
  i37 := by kernel_rfl
  i46 := by kernel_rfl
  i51 := by kernel_rfl
  i53 := by kernel_rfl
  i171 := by kernel_rfl
  i173 := by kernel_rfl
  i212 := by kernel_rfl
  i232 := by kernel_rfl
  i233 := by kernel_rfl
  m17 := by kernel_rfl
  m18 := by kernel_rfl
  m19 := by kernel_rfl }
open Go.RowKit Go.Sort Go.Lib in
theorem Tryz.strconv_FormatInt_10 (n : Int) (h0 : -9223372036854775808 ≤ n) (h1 : n ≤ 9223372036854775807) (w : World) (htab : Lib.TabIs Tryz.prog w "internal/strconv.uint64pow10" .u64 Lib.pow10Tab) :
    Calls Tryz.prog 42 #[.int .i64 n, .int .i64 10] w fun e w' => e = .returned (.string ⟨(Lib.itoa n).toArray⟩) ∧ ∃ k os, w' = grow (w.drewN k) os := Any.strconv_FormatInt_10 Tryz.laysM173 n h0 h1 w htab
end Go.Proofs
