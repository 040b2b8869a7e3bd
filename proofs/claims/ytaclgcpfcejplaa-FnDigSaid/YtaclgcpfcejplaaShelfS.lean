/- Contracts of Go's library, laid by the kit's shelf tools at this translation: each is one application of a theorem of the kit's library. -/
import Derived.Shelf.Sort.Plain
import Derived.Shelf.Slices.In.SortNone
import Derived.Shelf.Slices.In.SortNone2
import Derived.Test.YtaclgcpfcejplaaProg
namespace Go.Proofs
open Go.Shelf
def Try.lays192_ren : Go.Shelf.Ren := ⟨fun | 192 => 27 | 190 => 28 | 125 => 30 | 258 => 29 | 128 => 40 | 129 => 41 | 302 => 31 | 303 => 32 | 304 => 33 | 305 => 34 | 306 => 35 | 307 => 36 | 308 => 37 | 309 => 38 | 310 => 39 | 333 => 42 | 329 => 43 | 330 => 44 | 334 => 45 | 335 => 46 | 336 => 47 | 344 => 48 | n => n, fun | 31 => 22 | 0 => 0 | 9 => 9 | 3 => 3 | 46 => 58 | 51 => 68 | 53 => 70 | 4 => 4 | 183 => 61 | 182 => 60 | 131 => 29 | 5 => 5 | 218 => 71 | 222 => 75 | 228 => 78 | 229 => 79 | n => n, fun | n => n⟩
theorem Try.lays192 : Go.Proofs.Lays.n192 Try.prog Try.lays192_ren := {
  mixed := by kernel_rfl
  f125 := Try.func30.trans (congrArg some (by kernel_rfl))
  f128 := Try.func40.trans (congrArg some (by kernel_rfl))
  f129 := Try.func41.trans (congrArg some (by kernel_rfl))
  f190 := Try.func28.trans (congrArg some (by kernel_rfl))
  f192 := Try.func27.trans (congrArg some (by kernel_rfl))
  f258 := Try.func29.trans (congrArg some (by kernel_rfl))
  f302 := Try.func31.trans (congrArg some (by kernel_rfl))
  f303 := Try.func32.trans (congrArg some (by kernel_rfl))
  f304 := Try.func33.trans (congrArg some (by kernel_rfl))
  f305 := Try.func34.trans (congrArg some (by kernel_rfl))
  f306 := Try.func35.trans (congrArg some (by kernel_rfl))
  f307 := Try.func36.trans (congrArg some (by kernel_rfl))
  f308 := Try.func37.trans (congrArg some (by kernel_rfl))
  f309 := Try.func38.trans (congrArg some (by kernel_rfl))
  f310 := Try.func39.trans (congrArg some (by kernel_rfl))
  f329 := Try.func43.trans (congrArg some (by kernel_rfl))
  f330 := Try.func44.trans (congrArg some (by kernel_rfl))
  f333 := Try.func42.trans (congrArg some (by kernel_rfl))
  f334 := Try.func45.trans (congrArg some (by kernel_rfl))
  f335 := Try.func46.trans (congrArg some (by kernel_rfl))
  f336 := Try.func47.trans (congrArg some (by kernel_rfl))
  f344 := Try.func48.trans (congrArg some (by kernel_rfl))
  t0 := Try.underlying0
  a0 := Try.isAgg0
  z0 := Try.sizeOf0
  v0 := Try.zeroValue0
  t3 := Try.underlying3
  a3 := Try.isAgg3
  z3 := Try.sizeOf3
  v3 := Try.zeroValue3
  t4 := Try.underlying4
  a4 := Try.isAgg4
  z4 := Try.sizeOf4
  v4 := Try.zeroValue4
  t5 := Try.underlying5
  a5 := Try.isAgg5
  z5 := Try.sizeOf5
  v5 := Try.zeroValue5
  t9 := Try.underlying9
  a9 := Try.isAgg9
  z9 := Try.sizeOf9
  v9 := Try.zeroValue9
  t31 := Try.underlying22
  a31 := Try.isAgg22
  z31 := Try.sizeOf22
  v31 := Try.zeroValue22
  t46 := Try.underlying58
  a46 := Try.isAgg58
  z46 := Try.sizeOf58
  v46 := Try.zeroValue58
  t51 := Try.underlying68
  a51 := Try.isAgg68
  z51 := Try.sizeOf68
  v51 := Try.zeroValue68
  t53 := Try.underlying70
  a53 := Try.isAgg70
  z53 := Try.sizeOf70
  v53 := Try.zeroValue70
  t131 := Try.underlying29
  a131 := Try.isAgg29
  z131 := Try.sizeOf29
  v131 := Try.zeroValue29
  t182 := Try.underlying60
  a182 := Try.isAgg60
  z182 := Try.sizeOf60
  v182 := Try.zeroValue60
  t183 := Try.underlying61
  a183 := Try.isAgg61
  z183 := Try.sizeOf61
  v183 := Try.zeroValue61
  t218 := Try.underlying71
  a218 := Try.isAgg71
  z218 := Try.sizeOf71
  v218 := Try.zeroValue71
  t222 := Try.underlying75
  a222 := Try.isAgg75
  z222 := Try.sizeOf75
  v222 := Try.zeroValue75
  t228 := Try.underlying78
  a228 := Try.isAgg78
  z228 := Try.sizeOf78
  v228 := Try.zeroValue78
  t229 := Try.underlying79
  a229 := Try.isAgg79
  z229 := Try.sizeOf79
  v229 := Try.zeroValue79 }
open Go.Sort Go.RowKit in
theorem Try.sort_Strings (blk off cap : Nat) (ss : List (List UInt8)) (w : World) (hH : Holds encStr w blk off ss.toArray) (hblk : blk < w.heap.size) (hsz : ss.length < 4611686018427387904) :
    Calls Try.prog 27 #[.slice (some ⟨blk, off, none⟩) ss.length cap] w fun e w' =>
      e = .returned (.tuple #[]) ∧ ∃ n os, w' = grow (putRow encStr (Sort.ahead w n) blk off (ss.mergeSort fun x y => decide (x ≤ y)).toArray) os := Any.sort_Strings Try.lays192 blk off cap ss w hH hblk hsz
open Go.RowKit Go.Sort in
theorem Try.sort_Strings_none (p : Option Addr) (cap : Nat) (w : World) :
    Calls Try.prog 27 #[.slice p 0 cap] w fun e w' => e = .returned (.tuple #[]) ∧ w' = w := Any.sort_Strings_none Try.lays192 p cap w
end Go.Proofs
