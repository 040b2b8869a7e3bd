/- Contracts of Go's library, laid by the kit's shelf tools at this translation: each is one application of a theorem of the kit's library. -/
import Derived.Shelf.Sort.Plain
import Derived.Shelf.Slices.In.SortNone
import Derived.Shelf.Slices.In.SortNone2
import Derived.Test.YtaclgcpfcejplaaDoorProg
namespace Go.Proofs
open Go.Shelf
def Tryd.lays192_ren : Go.Shelf.Ren := ⟨fun | 192 => 26 | 190 => 28 | 125 => 32 | 258 => 31 | 128 => 45 | 129 => 46 | 302 => 36 | 303 => 37 | 304 => 38 | 305 => 39 | 306 => 40 | 307 => 41 | 308 => 42 | 309 => 43 | 310 => 44 | 333 => 51 | 329 => 52 | 330 => 53 | 334 => 54 | 335 => 55 | 336 => 56 | 344 => 63 | n => n, fun | 31 => 30 | 0 => 0 | 9 => 9 | 3 => 3 | 46 => 64 | 51 => 79 | 53 => 81 | 4 => 4 | 183 => 72 | 182 => 71 | 131 => 65 | 5 => 5 | 218 => 89 | 222 => 93 | 228 => 103 | 229 => 104 | n => n, fun | n => n⟩
theorem Tryd.lays192 : Go.Proofs.Lays.n192 Tryd.prog Tryd.lays192_ren := {
  mixed := by kernel_rfl
  f125 := Tryd.func32.trans (congrArg some (by kernel_rfl))
  f128 := Tryd.func45.trans (congrArg some (by kernel_rfl))
  f129 := Tryd.func46.trans (congrArg some (by kernel_rfl))
  f190 := Tryd.func28.trans (congrArg some (by kernel_rfl))
  f192 := Tryd.func26.trans (congrArg some (by kernel_rfl))
  f258 := Tryd.func31.trans (congrArg some (by kernel_rfl))
  f302 := Tryd.func36.trans (congrArg some (by kernel_rfl))
  f303 := Tryd.func37.trans (congrArg some (by kernel_rfl))
  f304 := Tryd.func38.trans (congrArg some (by kernel_rfl))
  f305 := Tryd.func39.trans (congrArg some (by kernel_rfl))
  f306 := Tryd.func40.trans (congrArg some (by kernel_rfl))
  f307 := Tryd.func41.trans (congrArg some (by kernel_rfl))
  f308 := Tryd.func42.trans (congrArg some (by kernel_rfl))
  f309 := Tryd.func43.trans (congrArg some (by kernel_rfl))
  f310 := Tryd.func44.trans (congrArg some (by kernel_rfl))
  f329 := Tryd.func52.trans (congrArg some (by kernel_rfl))
  f330 := Tryd.func53.trans (congrArg some (by kernel_rfl))
  f333 := Tryd.func51.trans (congrArg some (by kernel_rfl))
  f334 := Tryd.func54.trans (congrArg some (by kernel_rfl))
  f335 := Tryd.func55.trans (congrArg some (by kernel_rfl))
  f336 := Tryd.func56.trans (congrArg some (by kernel_rfl))
  f344 := Tryd.func63.trans (congrArg some (by kernel_rfl))
  t0 := Tryd.underlying0
  a0 := Tryd.isAgg0
  z0 := Tryd.sizeOf0
  v0 := Tryd.zeroValue0
  t3 := Tryd.underlying3
  a3 := Tryd.isAgg3
  z3 := Tryd.sizeOf3
  v3 := Tryd.zeroValue3
  t4 := Tryd.underlying4
  a4 := Tryd.isAgg4
  z4 := Tryd.sizeOf4
  v4 := Tryd.zeroValue4
  t5 := Tryd.underlying5
  a5 := Tryd.isAgg5
  z5 := Tryd.sizeOf5
  v5 := Tryd.zeroValue5
  t9 := Tryd.underlying9
  a9 := Tryd.isAgg9
  z9 := Tryd.sizeOf9
  v9 := Tryd.zeroValue9
  t31 := Tryd.underlying30
  a31 := Tryd.isAgg30
  z31 := Tryd.sizeOf30
  v31 := Tryd.zeroValue30
  t46 := Tryd.underlying64
  a46 := Tryd.isAgg64
  z46 := Tryd.sizeOf64
  v46 := Tryd.zeroValue64
  t51 := Tryd.underlying79
  a51 := Tryd.isAgg79
  z51 := Tryd.sizeOf79
  v51 := Tryd.zeroValue79
  t53 := Tryd.underlying81
  a53 := Tryd.isAgg81
  z53 := Tryd.sizeOf81
  v53 := Tryd.zeroValue81
  t131 := Tryd.underlying65
  a131 := Tryd.isAgg65
  z131 := Tryd.sizeOf65
  v131 := Tryd.zeroValue65
  t182 := Tryd.underlying71
  a182 := Tryd.isAgg71
  z182 := Tryd.sizeOf71
  v182 := Tryd.zeroValue71
  t183 := Tryd.underlying72
  a183 := Tryd.isAgg72
  z183 := Tryd.sizeOf72
  v183 := Tryd.zeroValue72
  t218 := Tryd.underlying89
  a218 := Tryd.isAgg89
  z218 := Tryd.sizeOf89
  v218 := Tryd.zeroValue89
  t222 := Tryd.underlying93
  a222 := Tryd.isAgg93
  z222 := Tryd.sizeOf93
  v222 := Tryd.zeroValue93
  t228 := Tryd.underlying103
  a228 := Tryd.isAgg103
  z228 := Tryd.sizeOf103
  v228 := Tryd.zeroValue103
  t229 := Tryd.underlying104
  a229 := Tryd.isAgg104
  z229 := Tryd.sizeOf104
  v229 := Tryd.zeroValue104 }
open Go.Sort Go.RowKit in
theorem Tryd.sort_Strings (blk off cap : Nat) (ss : List (List UInt8)) (w : World) (hH : Holds encStr w blk off ss.toArray) (hblk : blk < w.heap.size) (hsz : ss.length < 4611686018427387904) :
    Calls Tryd.prog 26 #[.slice (some ⟨blk, off, none⟩) ss.length cap] w fun e w' =>
      e = .returned (.tuple #[]) ∧ ∃ n os, w' = grow (putRow encStr (Sort.ahead w n) blk off (ss.mergeSort fun x y => decide (x ≤ y)).toArray) os := Any.sort_Strings Tryd.lays192 blk off cap ss w hH hblk hsz
open Go.RowKit Go.Sort in
theorem Tryd.sort_Strings_none (p : Option Addr) (cap : Nat) (w : World) :
    Calls Tryd.prog 26 #[.slice p 0 cap] w fun e w' => e = .returned (.tuple #[]) ∧ w' = w := Any.sort_Strings_none Tryd.lays192 p cap w
end Go.Proofs
