/- Contracts of Go's library, laid by the kit's shelf tools at this translation: each is one application of a theorem of the kit's library. -/
import Derived.Shelf.Small.Bits
import Derived.Shelf.Strconv.Itoa0
import Derived.Shelf.Strconv.Itoa1
import Derived.Shelf.LaysM
import Derived.Shelf.Strconv.Itoa2
import Derived.Shelf.Strconv.Itoa3
import Derived.Shelf.Sort.Plain
import Derived.Shelf.Bits.Mul64
import Derived.Shelf.Slices.In.SortNone
import Derived.Shelf.Slices.In.SortNone2
import Derived.Test.YtaclgcpfcejplaaGreatDoorProg
namespace Go.Proofs
open Go.Shelf
def Tryz.lays192_ren : Go.Shelf.Ren := ⟨fun | 192 => 19 | 190 => 23 | 125 => 27 | 258 => 26 | 128 => 38 | 129 => 39 | 302 => 29 | 303 => 30 | 304 => 31 | 305 => 32 | 306 => 33 | 307 => 34 | 308 => 35 | 309 => 36 | 310 => 37 | 333 => 45 | 329 => 46 | 330 => 47 | 334 => 48 | 335 => 49 | 336 => 50 | 344 => 55 | n => n, fun | 31 => 22 | 0 => 0 | 9 => 9 | 3 => 3 | 46 => 56 | 51 => 67 | 53 => 69 | 4 => 4 | 183 => 60 | 182 => 59 | 131 => 37 | 5 => 5 | 218 => 75 | 222 => 79 | 228 => 82 | 229 => 83 | n => n, fun | n => n⟩
theorem Tryz.lays192 : Go.Proofs.Lays.n192 Tryz.prog Tryz.lays192_ren := {
  mixed := by kernel_rfl
  f125 := Tryz.func27.trans (congrArg some (by kernel_rfl))
  f128 := Tryz.func38.trans (congrArg some (by kernel_rfl))
  f129 := Tryz.func39.trans (congrArg some (by kernel_rfl))
  f190 := Tryz.func23.trans (congrArg some (by kernel_rfl))
  f192 := Tryz.func19.trans (congrArg some (by kernel_rfl))
  f258 := Tryz.func26.trans (congrArg some (by kernel_rfl))
  f302 := Tryz.func29.trans (congrArg some (by kernel_rfl))
  f303 := Tryz.func30.trans (congrArg some (by kernel_rfl))
  f304 := Tryz.func31.trans (congrArg some (by kernel_rfl))
  f305 := Tryz.func32.trans (congrArg some (by kernel_rfl))
  f306 := Tryz.func33.trans (congrArg some (by kernel_rfl))
  f307 := Tryz.func34.trans (congrArg some (by kernel_rfl))
  f308 := Tryz.func35.trans (congrArg some (by kernel_rfl))
  f309 := Tryz.func36.trans (congrArg some (by kernel_rfl))
  f310 := Tryz.func37.trans (congrArg some (by kernel_rfl))
  f329 := Tryz.func46.trans (congrArg some (by kernel_rfl))
  f330 := Tryz.func47.trans (congrArg some (by kernel_rfl))
  f333 := Tryz.func45.trans (congrArg some (by kernel_rfl))
  f334 := Tryz.func48.trans (congrArg some (by kernel_rfl))
  f335 := Tryz.func49.trans (congrArg some (by kernel_rfl))
  f336 := Tryz.func50.trans (congrArg some (by kernel_rfl))
  f344 := Tryz.func55.trans (congrArg some (by kernel_rfl))
  t0 := Tryz.underlying0
  a0 := Tryz.isAgg0
  z0 := Tryz.sizeOf0
  v0 := Tryz.zeroValue0
  t3 := Tryz.underlying3
  a3 := Tryz.isAgg3
  z3 := Tryz.sizeOf3
  v3 := Tryz.zeroValue3
  t4 := Tryz.underlying4
  a4 := Tryz.isAgg4
  z4 := Tryz.sizeOf4
  v4 := Tryz.zeroValue4
  t5 := Tryz.underlying5
  a5 := Tryz.isAgg5
  z5 := Tryz.sizeOf5
  v5 := Tryz.zeroValue5
  t9 := Tryz.underlying9
  a9 := Tryz.isAgg9
  z9 := Tryz.sizeOf9
  v9 := Tryz.zeroValue9
  t31 := Tryz.underlying22
  a31 := Tryz.isAgg22
  z31 := Tryz.sizeOf22
  v31 := Tryz.zeroValue22
  t46 := Tryz.underlying56
  a46 := Tryz.isAgg56
  z46 := Tryz.sizeOf56
  v46 := Tryz.zeroValue56
  t51 := Tryz.underlying67
  a51 := Tryz.isAgg67
  z51 := Tryz.sizeOf67
  v51 := Tryz.zeroValue67
  t53 := Tryz.underlying69
  a53 := Tryz.isAgg69
  z53 := Tryz.sizeOf69
  v53 := Tryz.zeroValue69
  t131 := Tryz.underlying37
  a131 := Tryz.isAgg37
  z131 := Tryz.sizeOf37
  v131 := Tryz.zeroValue37
  t182 := Tryz.underlying59
  a182 := Tryz.isAgg59
  z182 := Tryz.sizeOf59
  v182 := Tryz.zeroValue59
  t183 := Tryz.underlying60
  a183 := Tryz.isAgg60
  z183 := Tryz.sizeOf60
  v183 := Tryz.zeroValue60
  t218 := Tryz.underlying75
  a218 := Tryz.isAgg75
  z218 := Tryz.sizeOf75
  v218 := Tryz.zeroValue75
  t222 := Tryz.underlying79
  a222 := Tryz.isAgg79
  z222 := Tryz.sizeOf79
  v222 := Tryz.zeroValue79
  t228 := Tryz.underlying82
  a228 := Tryz.isAgg82
  z228 := Tryz.sizeOf82
  v228 := Tryz.zeroValue82
  t229 := Tryz.underlying83
  a229 := Tryz.isAgg83
  z229 := Tryz.sizeOf83
  v229 := Tryz.zeroValue83 }
open Go.Sort Go.RowKit in
theorem Tryz.sort_Strings (blk off cap : Nat) (ss : List (List UInt8)) (w : World) (hH : Holds encStr w blk off ss.toArray) (hblk : blk < w.heap.size) (hsz : ss.length < 4611686018427387904) :
    Calls Tryz.prog 19 #[.slice (some ⟨blk, off, none⟩) ss.length cap] w fun e w' =>
      e = .returned (.tuple #[]) ∧ ∃ n os, w' = grow (putRow encStr (Sort.ahead w n) blk off (ss.mergeSort fun x y => decide (x ≤ y)).toArray) os := Any.sort_Strings Tryz.lays192 blk off cap ss w hH hblk hsz
open Go.RowKit Go.Sort in
theorem Tryz.sort_Strings_none (p : Option Addr) (cap : Nat) (w : World) :
    Calls Tryz.prog 19 #[.slice p 0 cap] w fun e w' => e = .returned (.tuple #[]) ∧ w' = w := Any.sort_Strings_none Tryz.lays192 p cap w
end Go.Proofs
