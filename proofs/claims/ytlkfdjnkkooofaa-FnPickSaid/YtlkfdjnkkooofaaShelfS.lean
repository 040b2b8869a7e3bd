/- Contracts of Go's library, laid by the kit's shelf tools at this translation: each is one application of a theorem of the kit's library. -/
import Derived.Shelf.Sort.Plain
import Derived.Shelf.Slices.In.SortNone
import Derived.Shelf.Slices.In.SortNone2
import Derived.Test.YtlkfdjnkkooofaaProg
namespace Go.Proofs
open Go.Shelf
def Try.lays192_ren : Go.Shelf.Ren := ⟨fun | 192 => 76 | 190 => 97 | 125 => 102 | 258 => 101 | 128 => 112 | 129 => 113 | 302 => 103 | 303 => 104 | 304 => 105 | 305 => 106 | 306 => 107 | 307 => 108 | 308 => 109 | 309 => 110 | 310 => 111 | 333 => 114 | 329 => 115 | 330 => 116 | 334 => 117 | 335 => 118 | 336 => 119 | 344 => 120 | n => n, fun | 31 => 23 | 0 => 0 | 9 => 9 | 3 => 3 | 46 => 103 | 51 => 113 | 53 => 115 | 4 => 4 | 183 => 106 | 182 => 105 | 131 => 51 | 5 => 5 | 218 => 116 | 222 => 120 | 228 => 123 | 229 => 124 | n => n, fun | n => n⟩
theorem Try.lays192 : Go.Proofs.Lays.n192 Try.prog Try.lays192_ren := {
  mixed := by kernel_rfl
  f125 := Try.func102.trans (congrArg some (by kernel_rfl))
  f128 := Try.func112.trans (congrArg some (by kernel_rfl))
  f129 := Try.func113.trans (congrArg some (by kernel_rfl))
  f190 := Try.func97.trans (congrArg some (by kernel_rfl))
  f192 := Try.func76.trans (congrArg some (by kernel_rfl))
  f258 := Try.func101.trans (congrArg some (by kernel_rfl))
  f302 := Try.func103.trans (congrArg some (by kernel_rfl))
  f303 := Try.func104.trans (congrArg some (by kernel_rfl))
  f304 := Try.func105.trans (congrArg some (by kernel_rfl))
  f305 := Try.func106.trans (congrArg some (by kernel_rfl))
  f306 := Try.func107.trans (congrArg some (by kernel_rfl))
  f307 := Try.func108.trans (congrArg some (by kernel_rfl))
  f308 := Try.func109.trans (congrArg some (by kernel_rfl))
  f309 := Try.func110.trans (congrArg some (by kernel_rfl))
  f310 := Try.func111.trans (congrArg some (by kernel_rfl))
  f329 := Try.func115.trans (congrArg some (by kernel_rfl))
  f330 := Try.func116.trans (congrArg some (by kernel_rfl))
  f333 := Try.func114.trans (congrArg some (by kernel_rfl))
  f334 := Try.func117.trans (congrArg some (by kernel_rfl))
  f335 := Try.func118.trans (congrArg some (by kernel_rfl))
  f336 := Try.func119.trans (congrArg some (by kernel_rfl))
  f344 := Try.func120.trans (congrArg some (by kernel_rfl))
  t0 := Try.underlying0
  a0 := Try.isAgg0
  z0 := Try.sizeOf0
  v0 := Try.zeroValue0
  t3 := Try.underlying3
  a3 := Try.isAgg3
  z3 := Try.sizeOf3
  v3 := Try.zeroValue3
  t4 := Try.underlying4
  a4 := Try.isAgg4
  z4 := Try.sizeOf4
  v4 := Try.zeroValue4
  t5 := Try.underlying5
  a5 := Try.isAgg5
  z5 := Try.sizeOf5
  v5 := Try.zeroValue5
  t9 := Try.underlying9
  a9 := Try.isAgg9
  z9 := Try.sizeOf9
  v9 := Try.zeroValue9
  t31 := Try.underlying23
  a31 := Try.isAgg23
  z31 := Try.sizeOf23
  v31 := Try.zeroValue23
  t46 := Try.underlying103
  a46 := Try.isAgg103
  z46 := Try.sizeOf103
  v46 := Try.zeroValue103
  t51 := Try.underlying113
  a51 := Try.isAgg113
  z51 := Try.sizeOf113
  v51 := Try.zeroValue113
  t53 := Try.underlying115
  a53 := Try.isAgg115
  z53 := Try.sizeOf115
  v53 := Try.zeroValue115
  t131 := Try.underlying51
  a131 := Try.isAgg51
  z131 := Try.sizeOf51
  v131 := Try.zeroValue51
  t182 := Try.underlying105
  a182 := Try.isAgg105
  z182 := Try.sizeOf105
  v182 := Try.zeroValue105
  t183 := Try.underlying106
  a183 := Try.isAgg106
  z183 := Try.sizeOf106
  v183 := Try.zeroValue106
  t218 := Try.underlying116
  a218 := Try.isAgg116
  z218 := Try.sizeOf116
  v218 := Try.zeroValue116
  t222 := Try.underlying120
  a222 := Try.isAgg120
  z222 := Try.sizeOf120
  v222 := Try.zeroValue120
  t228 := Try.underlying123
  a228 := Try.isAgg123
  z228 := Try.sizeOf123
  v228 := Try.zeroValue123
  t229 := Try.underlying124
  a229 := Try.isAgg124
  z229 := Try.sizeOf124
  v229 := Try.zeroValue124 }
open Go.Sort Go.RowKit in
theorem Try.sort_Strings (blk off cap : Nat) (ss : List (List UInt8)) (w : World) (hH : Holds encStr w blk off ss.toArray) (hblk : blk < w.heap.size) (hsz : ss.length < 4611686018427387904) :
    Calls Try.prog 76 #[.slice (some ⟨blk, off, none⟩) ss.length cap] w fun e w' =>
      e = .returned (.tuple #[]) ∧ ∃ n os, w' = grow (putRow encStr (Sort.ahead w n) blk off (ss.mergeSort fun x y => decide (x ≤ y)).toArray) os := Any.sort_Strings Try.lays192 blk off cap ss w hH hblk hsz
open Go.RowKit Go.Sort in
theorem Try.sort_Strings_none (p : Option Addr) (cap : Nat) (w : World) :
    Calls Try.prog 76 #[.slice p 0 cap] w fun e w' => e = .returned (.tuple #[]) ∧ w' = w := Any.sort_Strings_none Try.lays192 p cap w
end Go.Proofs
