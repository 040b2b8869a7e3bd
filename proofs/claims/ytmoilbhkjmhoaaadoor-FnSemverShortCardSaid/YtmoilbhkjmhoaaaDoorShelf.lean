/- Contracts of Go's library, laid by the kit's shelf tools at this translation: each is one application of a theorem of the kit's library. -/
import Derived.Shelf.Strconv.Itoa0
import Derived.Shelf.Strconv.Itoa1
import Derived.Shelf.LaysM
import Derived.Shelf.Strconv.Itoa2
import Derived.Shelf.Strconv.Itoa3
import Derived.Shelf.Strconv.Clone
import Derived.Shelf.Strconv.Lower
import Derived.Shelf.Strconv.ParseUint10
import Derived.Shelf.Strconv.ParseUint10Empty
import Derived.Shelf.Strconv.ParseUintEmpty
import Derived.Shelf.Strconv.ParseUint10b32
import Derived.Shelf.Strconv.ParseUint10b16
import Derived.Ground.MpProg
import Derived.Shelf.Pu.ParseUintPublic10
import Derived.Shelf.Pu.ErrVarParseUint
import Derived.Shelf.Strings.Prefix
import Derived.Shelf.Unicode.Decode
import Derived.Shelf.Unicode.DecodeSlow
import Derived.Shelf.Unicode.DecodeAny
import Derived.Test.YtmoilbhkjmhoaaaDoorProg
namespace Go.Proofs
open Go.Shelf
def Tryd.lays283_ren : Go.Shelf.Ren := ⟨fun | 283 => 58 | n => n, fun | 3 => 3 | 9 => 9 | 4 => 4 | n => n, fun | n => n⟩
theorem Tryd.lays283 : Go.Proofs.Lays.n283 Tryd.prog Tryd.lays283_ren := {
  mixed := by kernel_rfl
  f283 := Tryd.func58.trans (congrArg some (by kernel_rfl))
  t3 := Tryd.underlying3
  a3 := Tryd.isAgg3
  z3 := Tryd.sizeOf3
  v3 := Tryd.zeroValue3
  t4 := Tryd.underlying4
  a4 := Tryd.isAgg4
  z4 := Tryd.sizeOf4
  v4 := Tryd.zeroValue4
  t9 := Tryd.underlying9
  a9 := Tryd.isAgg9
  z9 := Tryd.sizeOf9
  v9 := Tryd.zeroValue9 }
open Go.Lib in
theorem Tryd.internal_strconv_small (i : Nat) (h : i < 100) (w : World) :
    Calls Tryd.prog 58 #[.int .i64 i] w fun e w' => e = .returned (.string ⟨(Lib.decDigits i).toArray⟩) ∧ w' = w := Any.internal_strconv_small Tryd.lays283 i h w
def Tryd.laysM284_ren : Go.Shelf.Ren := ⟨fun | 284 => 59 | 129 => 78 | 317 => 77 | 318 => 79 | n => n, fun | 53 => 24 | 3 => 3 | 212 => 119 | 0 => 0 | 4 => 4 | 46 => 112 | 5 => 5 | 9 => 9 | n => n, fun | 17 => 0 | n => n⟩
theorem Tryd.laysM284 : Go.Proofs.LaysM.n284 Tryd.prog Tryd.laysM284_ren := {
  mixed := by kernel_rfl
  f129 := Tryd.func78.trans (congrArg some (by kernel_rfl))
  f284 := Tryd.func59.trans (congrArg some (by kernel_rfl))
  f317 := Tryd.func77.trans (congrArg some (by kernel_rfl))
  f318 := Tryd.func79.trans (congrArg some (by kernel_rfl))
  t0 := Tryd.underlying0
  a0 := Tryd.isAgg0
  z0 := Tryd.sizeOf0
  v0 := Tryd.zeroValue0
  t3 := Tryd.underlying3
  a3 := Tryd.isAgg3
  z3 := Tryd.sizeOf3
  v3 := Tryd.zeroValue3
  t4 := Tryd.underlying4
  a4 := Tryd.isAgg4
  z4 := Tryd.sizeOf4
  v4 := Tryd.zeroValue4
  t5 := Tryd.underlying5
  a5 := Tryd.isAgg5
  z5 := Tryd.sizeOf5
  v5 := Tryd.zeroValue5
  t9 := Tryd.underlying9
  a9 := Tryd.isAgg9
  z9 := Tryd.sizeOf9
  v9 := Tryd.zeroValue9
  t46 := Tryd.underlying112
  a46 := Tryd.isAgg112
  z46 := Tryd.sizeOf112
  v46 := Tryd.zeroValue112
  t53 := Tryd.underlying24
  a53 := Tryd.isAgg24
  z53 := Tryd.sizeOf24
  v53 := Tryd.zeroValue24
  t212 := Tryd.underlying119
  a212 := Tryd.isAgg119
  z212 := Tryd.sizeOf119
  v212 := Tryd.zeroValue119
  g17 := by kernel_rfl
  i0 := by kernel_rfl
  i3 := by kernel_rfl
  i4 := by kernel_rfl
  i5 := by kernel_rfl
  i9 := by kernel_rfl
  i46 := by kernel_rfl
  i53 := by kernel_rfl
  i212 := by kernel_rfl
  m17 := by kernel_rfl }
open Go.Lib in
theorem Tryd.internal_strconv_numDigits (u : Nat) (h1 : 1 ≤ u) (h2 : u < 18446744073709551616) (w : World) (htab : Lib.TabIs Tryd.prog w "internal/strconv.uint64pow10" .u64 Lib.pow10Tab) :
    Calls Tryd.prog 59 #[.int .u64 u] w fun e w' => e = .returned (.int .i64 (Lib.nDigits u)) ∧ w' = w := Any.internal_strconv_numDigits Tryd.laysM284 u h1 h2 w htab
def Tryd.lays285_ren : Go.Shelf.Ren := ⟨fun | 285 => 60 | n => n, fun | 37 => 66 | 53 => 24 | 3 => 3 | 4 => 4 | 51 => 22 | 9 => 9 | 5 => 5 | 0 => 0 | n => n, fun | n => n⟩
theorem Tryd.lays285 : Go.Proofs.Lays.n285 Tryd.prog Tryd.lays285_ren := {
  mixed := by kernel_rfl
  f285 := Tryd.func60.trans (congrArg some (by kernel_rfl))
  t0 := Tryd.underlying0
  a0 := Tryd.isAgg0
  z0 := Tryd.sizeOf0
  v0 := Tryd.zeroValue0
  t3 := Tryd.underlying3
  a3 := Tryd.isAgg3
  z3 := Tryd.sizeOf3
  v3 := Tryd.zeroValue3
  t4 := Tryd.underlying4
  a4 := Tryd.isAgg4
  z4 := Tryd.sizeOf4
  v4 := Tryd.zeroValue4
  t5 := Tryd.underlying5
  a5 := Tryd.isAgg5
  z5 := Tryd.sizeOf5
  v5 := Tryd.zeroValue5
  t9 := Tryd.underlying9
  a9 := Tryd.isAgg9
  z9 := Tryd.sizeOf9
  v9 := Tryd.zeroValue9
  t37 := Tryd.underlying66
  a37 := Tryd.isAgg66
  z37 := Tryd.sizeOf66
  v37 := Tryd.zeroValue66
  t51 := Tryd.underlying22
  a51 := Tryd.isAgg22
  z51 := Tryd.sizeOf22
  v51 := Tryd.zeroValue22
  t53 := Tryd.underlying24
  a53 := Tryd.isAgg24
  z53 := Tryd.sizeOf24
  v53 := Tryd.zeroValue24 }
open Go.RowKit Go.Sort Go.Lib in
theorem Tryd.internal_strconv_formatBase10 (blk off cap : Nat) (u : Nat) (d : Array UInt8) (w : World) (hH : Holds (fun (b : UInt8) => Value.int .u8 (b.toNat : Int)) w blk off d) (hu : u < 10 ^ d.size) (hu64 : u < 18446744073709551616) (hsz : d.size < 4611686018427387904) :
    Calls Tryd.prog 60 #[.slice (some ⟨blk, off, none⟩) d.size cap, .int .u64 u] w fun e w' =>
      e = .returned (.tuple #[]) ∧ ∃ (n v' : Nat) (dk : Array UInt8), w' = (putRow (fun (b : UInt8) => Value.int .u8 (b.toNat : Int)) w blk off dk).drewN n ∧ FmtInv d.size u 0 v' dk := Any.internal_strconv_formatBase10 Tryd.lays285 blk off cap u d w hH hu hu64 hsz
def Tryd.laysM171_ren : Go.Shelf.Ren := ⟨fun | 171 => 90 | 243 => 106 | 246 => 110 | 283 => 58 | 284 => 59 | 285 => 60 | 286 => 61 | 129 => 78 | 317 => 77 | 318 => 79 | 319 => 80 | 320 => 81 | 337 => 92 | 338 => 93 | n => n, fun | 3 => 3 | 9 => 9 | 2 => 2 | 4 => 4 | 171 => 93 | 0 => 0 | 53 => 24 | 37 => 66 | 5 => 5 | 173 => 96 | 212 => 119 | 51 => 22 | 20 => 20 | 213 => 120 | 46 => 112 | 232 => 140 | 233 => 141 | n => n, fun | 17 => 0 | 18 => 3 | 19 => 4 | n => n⟩
theorem Tryd.laysM171 : Go.Proofs.LaysM.n171 Tryd.prog Tryd.laysM171_ren := {
  mixed := by kernel_rfl
  f129 := Tryd.func78.trans (congrArg some (by kernel_rfl))
  f171 := Tryd.func90.trans (congrArg some (by kernel_rfl))
  f243 := Tryd.func106.trans (congrArg some (by kernel_rfl))
  f246 := Tryd.func110.trans (congrArg some (by kernel_rfl))
  f283 := Tryd.func58.trans (congrArg some (by kernel_rfl))
  f284 := Tryd.func59.trans (congrArg some (by kernel_rfl))
  f285 := Tryd.func60.trans (congrArg some (by kernel_rfl))
  f286 := Tryd.func61.trans (congrArg some (by kernel_rfl))
  f317 := Tryd.func77.trans (congrArg some (by kernel_rfl))
  f318 := Tryd.func79.trans (congrArg some (by kernel_rfl))
  f319 := Tryd.func80.trans (congrArg some (by kernel_rfl))
  f320 := Tryd.func81.trans (congrArg some (by kernel_rfl))
  f337 := Tryd.func92.trans (congrArg some (by kernel_rfl))
  f338 := Tryd.func93.trans (congrArg some (by kernel_rfl))
  t0 := Tryd.underlying0
  a0 := Tryd.isAgg0
  z0 := Tryd.sizeOf0
  v0 := Tryd.zeroValue0
  t2 := Tryd.underlying2
  a2 := Tryd.isAgg2
  z2 := Tryd.sizeOf2
  v2 := Tryd.zeroValue2
  t3 := Tryd.underlying3
  a3 := Tryd.isAgg3
  z3 := Tryd.sizeOf3
  v3 := Tryd.zeroValue3
  t4 := Tryd.underlying4
  a4 := Tryd.isAgg4
  z4 := Tryd.sizeOf4
  v4 := Tryd.zeroValue4
  t5 := Tryd.underlying5
  a5 := Tryd.isAgg5
  z5 := Tryd.sizeOf5
  v5 := Tryd.zeroValue5
  t9 := Tryd.underlying9
  a9 := Tryd.isAgg9
  z9 := Tryd.sizeOf9
  v9 := Tryd.zeroValue9
  t20 := Tryd.underlying20
  a20 := Tryd.isAgg20
  z20 := Tryd.sizeOf20
  v20 := Tryd.zeroValue20
  t37 := Tryd.underlying66
  a37 := Tryd.isAgg66
  z37 := Tryd.sizeOf66
  v37 := Tryd.zeroValue66
  t46 := Tryd.underlying112
  a46 := Tryd.isAgg112
  z46 := Tryd.sizeOf112
  v46 := Tryd.zeroValue112
  t51 := Tryd.underlying22
  a51 := Tryd.isAgg22
  z51 := Tryd.sizeOf22
  v51 := Tryd.zeroValue22
  t53 := Tryd.underlying24
  a53 := Tryd.isAgg24
  z53 := Tryd.sizeOf24
  v53 := Tryd.zeroValue24
  t171 := Tryd.underlying93
  a171 := Tryd.isAgg93
  z171 := Tryd.sizeOf93
  v171 := Tryd.zeroValue93
  t173 := Tryd.underlying96
  a173 := Tryd.isAgg96
  z173 := Tryd.sizeOf96
  v173 := Tryd.zeroValue96
  t212 := Tryd.underlying119
  a212 := Tryd.isAgg119
  z212 := Tryd.sizeOf119
  v212 := Tryd.zeroValue119
  t213 := Tryd.underlying120
  a213 := Tryd.isAgg120
  z213 := Tryd.sizeOf120
  t232 := Tryd.underlying140
  a232 := Tryd.isAgg140
  z232 := Tryd.sizeOf140
  v232 := Tryd.zeroValue140
  t233 := Tryd.underlying141
  a233 := Tryd.isAgg141
  z233 := Tryd.sizeOf141
  v233 := Tryd.zeroValue141
  g17 := by kernel_rfl
  g18 := by kernel_rfl
  g19 := by kernel_rfl
  i0 := by kernel_rfl
  i2 := by kernel_rfl
  i3 := by kernel_rfl
  i4 := by kernel_rfl
  i5 := by kernel_rfl
  i9 := by kernel_rfl
  i20 := by kernel_rfl
  i37 := by kernel_rfl
  i46 := by kernel_rfl
  i51 := by kernel_rfl
  i53 := by kernel_rfl
  i171 := by kernel_rfl
  i173 := by kernel_rfl
  i212 := by kernel_rfl
  i232 := by kernel_rfl
  i233 := by kernel_rfl
  m17 := by kernel_rfl
  m18 := by kernel_rfl
  m19 := by kernel_rfl }
open Go.RowKit Go.Sort Go.Lib in
theorem Tryd.strconv_Itoa (n : Int) (h0 : -9223372036854775808 ≤ n) (h1 : n ≤ 9223372036854775807) (w : World) (htab : Lib.TabIs Tryd.prog w "internal/strconv.uint64pow10" .u64 Lib.pow10Tab) :
    Calls Tryd.prog 90 #[.int .i64 n] w fun e w' => e = .returned (.string ⟨(Lib.itoa n).toArray⟩) ∧ ∃ k os, w' = grow (w.drewN k) os := Any.strconv_Itoa Tryd.laysM171 n h0 h1 w htab
def Tryd.laysPu14_ren : Go.Shelf.Ren := ⟨fun | 14 => 42 | 16 => 54 | 17 => 55 | 19 => 69 | 20 => 70 | 21 => 71 | 22 => 72 | 23 => 73 | 24 => 74 | 25 => 89 | 27 => 90 | 26 => 43 | 28 => 106 | 29 => 110 | 30 => 58 | 31 => 59 | 32 => 60 | 33 => 61 | 35 => 78 | 34 => 77 | 36 => 79 | 37 => 80 | 38 => 81 | 39 => 92 | 40 => 93 | n => n, fun | 9 => 9 | 3 => 3 | 22 => 24 | 24 => 53 | 25 => 76 | 4 => 4 | 34 => 110 | 5 => 5 | 36 => 112 | 37 => 66 | 0 => 0 | 39 => 113 | 21 => 21 | 44 => 133 | 47 => 139 | 50 => 90 | 48 => 88 | 2 => 2 | 52 => 93 | 55 => 96 | 59 => 119 | 60 => 22 | 20 => 20 | 61 => 120 | 65 => 140 | 66 => 141 | 67 => 56 | n => n, fun | 0 => 1 | 1 => 2 | 2 => 0 | 3 => 3 | 4 => 4 | n => n⟩
theorem Tryd.laysPu14 : Go.Proofs.LaysPu.n14 Tryd.prog Tryd.laysPu14_ren := {
  mixed := by kernel_rfl
  f14 := Tryd.func42.trans (congrArg some (by kernel_rfl))
  f16 := Tryd.func54.trans (congrArg some (by kernel_rfl))
  f17 := Tryd.func55.trans (congrArg some (by kernel_rfl))
  f19 := Tryd.func69.trans (congrArg some (by kernel_rfl))
  f20 := Tryd.func70.trans (congrArg some (by kernel_rfl))
  f21 := Tryd.func71.trans (congrArg some (by kernel_rfl))
  f22 := Tryd.func72.trans (congrArg some (by kernel_rfl))
  f23 := Tryd.func73.trans (congrArg some (by kernel_rfl))
  f24 := Tryd.func74.trans (congrArg some (by kernel_rfl))
  f25 := Tryd.func89.trans (congrArg some (by kernel_rfl))
  f26 := Tryd.func43.trans (congrArg some (by kernel_rfl))
  f27 := Tryd.func90.trans (congrArg some (by kernel_rfl))
  f28 := Tryd.func106.trans (congrArg some (by kernel_rfl))
  f29 := Tryd.func110.trans (congrArg some (by kernel_rfl))
  f30 := Tryd.func58.trans (congrArg some (by kernel_rfl))
  f31 := Tryd.func59.trans (congrArg some (by kernel_rfl))
  f32 := Tryd.func60.trans (congrArg some (by kernel_rfl))
  f33 := Tryd.func61.trans (congrArg some (by kernel_rfl))
  f34 := Tryd.func77.trans (congrArg some (by kernel_rfl))
  f35 := Tryd.func78.trans (congrArg some (by kernel_rfl))
  f36 := Tryd.func79.trans (congrArg some (by kernel_rfl))
  f37 := Tryd.func80.trans (congrArg some (by kernel_rfl))
  f38 := Tryd.func81.trans (congrArg some (by kernel_rfl))
  f39 := Tryd.func92.trans (congrArg some (by kernel_rfl))
  f40 := Tryd.func93.trans (congrArg some (by kernel_rfl))
  t0 := Tryd.underlying0
  a0 := Tryd.isAgg0
  z0 := Tryd.sizeOf0
  v0 := Tryd.zeroValue0
  i0 := by kernel_rfl
  t2 := Tryd.underlying2
  a2 := Tryd.isAgg2
  z2 := Tryd.sizeOf2
  v2 := Tryd.zeroValue2
  i2 := by kernel_rfl
  t3 := Tryd.underlying3
  a3 := Tryd.isAgg3
  z3 := Tryd.sizeOf3
  v3 := Tryd.zeroValue3
  i3 := by kernel_rfl
  t4 := Tryd.underlying4
  a4 := Tryd.isAgg4
  z4 := Tryd.sizeOf4
  v4 := Tryd.zeroValue4
  i4 := by kernel_rfl
  t5 := Tryd.underlying5
  a5 := Tryd.isAgg5
  z5 := Tryd.sizeOf5
  v5 := Tryd.zeroValue5
  i5 := by kernel_rfl
  t9 := Tryd.underlying9
  a9 := Tryd.isAgg9
  z9 := Tryd.sizeOf9
  v9 := Tryd.zeroValue9
  i9 := by kernel_rfl
  t20 := Tryd.underlying20
  a20 := Tryd.isAgg20
  z20 := Tryd.sizeOf20
  v20 := Tryd.zeroValue20
  i20 := by kernel_rfl
  t21 := Tryd.underlying21
  a21 := Tryd.isAgg21
  z21 := Tryd.sizeOf21
  v21 := Tryd.zeroValue21
  i21 := by kernel_rfl
  t22 := Tryd.underlying24
  a22 := Tryd.isAgg24
  z22 := Tryd.sizeOf24
  v22 := Tryd.zeroValue24
  i22 := by kernel_rfl
  t24 := Tryd.underlying53
  a24 := Tryd.isAgg53
  z24 := Tryd.sizeOf53
  v24 := Tryd.zeroValue53
  i24 := by kernel_rfl
  t25 := Tryd.underlying76
  a25 := Tryd.isAgg76
  z25 := Tryd.sizeOf76
  v25 := Tryd.zeroValue76
  i25 := by kernel_rfl
  t34 := Tryd.underlying110
  a34 := Tryd.isAgg110
  z34 := Tryd.sizeOf110
  v34 := Tryd.zeroValue110
  i34 := by kernel_rfl
  c34 := by kernel_rfl
  t36 := Tryd.underlying112
  a36 := Tryd.isAgg112
  z36 := Tryd.sizeOf112
  v36 := Tryd.zeroValue112
  i36 := by kernel_rfl
  t37 := Tryd.underlying66
  a37 := Tryd.isAgg66
  z37 := Tryd.sizeOf66
  v37 := Tryd.zeroValue66
  i37 := by kernel_rfl
  t39 := Tryd.underlying113
  a39 := Tryd.isAgg113
  z39 := Tryd.sizeOf113
  v39 := Tryd.zeroValue113
  i39 := by kernel_rfl
  t44 := Tryd.underlying133
  a44 := Tryd.isAgg133
  z44 := Tryd.sizeOf133
  v44 := Tryd.zeroValue133
  i44 := by kernel_rfl
  t47 := Tryd.underlying139
  a47 := Tryd.isAgg139
  z47 := Tryd.sizeOf139
  v47 := Tryd.zeroValue139
  i47 := by kernel_rfl
  t48 := Tryd.underlying88
  a48 := Tryd.isAgg88
  z48 := Tryd.sizeOf88
  v48 := Tryd.zeroValue88
  i48 := by kernel_rfl
  t50 := Tryd.underlying90
  a50 := Tryd.isAgg90
  z50 := Tryd.sizeOf90
  v50 := Tryd.zeroValue90
  i50 := by kernel_rfl
  t52 := Tryd.underlying93
  a52 := Tryd.isAgg93
  z52 := Tryd.sizeOf93
  v52 := Tryd.zeroValue93
  i52 := by kernel_rfl
  t55 := Tryd.underlying96
  a55 := Tryd.isAgg96
  z55 := Tryd.sizeOf96
  v55 := Tryd.zeroValue96
  i55 := by kernel_rfl
  t59 := Tryd.underlying119
  a59 := Tryd.isAgg119
  z59 := Tryd.sizeOf119
  v59 := Tryd.zeroValue119
  i59 := by kernel_rfl
  t60 := Tryd.underlying22
  a60 := Tryd.isAgg22
  z60 := Tryd.sizeOf22
  v60 := Tryd.zeroValue22
  i60 := by kernel_rfl
  t61 := Tryd.underlying120
  a61 := Tryd.isAgg120
  z61 := Tryd.sizeOf120
  t65 := Tryd.underlying140
  a65 := Tryd.isAgg140
  z65 := Tryd.sizeOf140
  v65 := Tryd.zeroValue140
  i65 := by kernel_rfl
  t66 := Tryd.underlying141
  a66 := Tryd.isAgg141
  z66 := Tryd.sizeOf141
  v66 := Tryd.zeroValue141
  i66 := by kernel_rfl
  t67 := Tryd.underlying56
  a67 := Tryd.isAgg56
  z67 := Tryd.sizeOf56
  v67 := Tryd.zeroValue56
  i67 := by kernel_rfl
  g0 := by kernel_rfl
  m0 := by kernel_rfl
  g1 := by kernel_rfl
  m1 := by kernel_rfl
  g2 := by kernel_rfl
  m2 := by kernel_rfl
  g3 := by kernel_rfl
  m3 := by kernel_rfl
  g4 := by kernel_rfl
  m4 := by kernel_rfl }
open Go.RowKit in
theorem Tryd.strconv_ParseUint_10_at64_ok (s : ByteArray) (hmax : s.size ≤ 9223372036854775806) (u : Nat) (h : Lib.parseUintB 64 s.data.toList = .ok u) (w : World) :
    Calls Tryd.prog 42 #[.string s, .int .i64 10, .int .i64 64] w fun e w' => e = .returned (.tuple #[.int .u64 u, .nilIface]) ∧ (w' = w ∨ w' = Lib.bytesWorld w 5 s) := Any.strconv_ParseUint_10_at64_ok Tryd.laysPu14 s hmax u h w
end Go.Proofs
