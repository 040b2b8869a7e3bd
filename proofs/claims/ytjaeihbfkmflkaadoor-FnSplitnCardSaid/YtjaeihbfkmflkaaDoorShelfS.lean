/- Contracts of Go's library, laid by the kit's shelf tools at this translation: each is one application of a theorem of the kit's library. -/
import Derived.Shelf.Sort.Plain
import Derived.Shelf.Unicode.DecodeSlow
import Derived.Shelf.Slices.In.SortNone
import Derived.Shelf.Slices.In.SortNone2
import Derived.Test.YtjaeihbfkmflkaaDoorProg
namespace Go.Proofs
open Go.Shelf
def Tryd.lays192_ren : Go.Shelf.Ren := ⟨fun | 192 => 50 | 190 => 57 | 125 => 65 | 258 => 64 | 128 => 77 | 129 => 78 | 302 => 68 | 303 => 69 | 304 => 70 | 305 => 71 | 306 => 72 | 307 => 73 | 308 => 74 | 309 => 75 | 310 => 76 | 333 => 83 | 329 => 84 | 330 => 85 | 334 => 86 | 335 => 87 | 336 => 88 | 344 => 93 | n => n, fun | 31 => 35 | 0 => 0 | 9 => 9 | 3 => 3 | 46 => 108 | 51 => 69 | 53 => 130 | 4 => 4 | 183 => 122 | 182 => 121 | 131 => 126 | 5 => 5 | 218 => 135 | 222 => 139 | 228 => 146 | 229 => 147 | n => n, fun | n => n⟩
theorem Tryd.lays192 : Go.Proofs.Lays.n192 Tryd.prog Tryd.lays192_ren := {
  mixed := by kernel_rfl
  f125 := Tryd.func65.trans (congrArg some (by kernel_rfl))
  f128 := Tryd.func77.trans (congrArg some (by kernel_rfl))
  f129 := Tryd.func78.trans (congrArg some (by kernel_rfl))
  f190 := Tryd.func57.trans (congrArg some (by kernel_rfl))
  f192 := Tryd.func50.trans (congrArg some (by kernel_rfl))
  f258 := Tryd.func64.trans (congrArg some (by kernel_rfl))
  f302 := Tryd.func68.trans (congrArg some (by kernel_rfl))
  f303 := Tryd.func69.trans (congrArg some (by kernel_rfl))
  f304 := Tryd.func70.trans (congrArg some (by kernel_rfl))
  f305 := Tryd.func71.trans (congrArg some (by kernel_rfl))
  f306 := Tryd.func72.trans (congrArg some (by kernel_rfl))
  f307 := Tryd.func73.trans (congrArg some (by kernel_rfl))
  f308 := Tryd.func74.trans (congrArg some (by kernel_rfl))
  f309 := Tryd.func75.trans (congrArg some (by kernel_rfl))
  f310 := Tryd.func76.trans (congrArg some (by kernel_rfl))
  f329 := Tryd.func84.trans (congrArg some (by kernel_rfl))
  f330 := Tryd.func85.trans (congrArg some (by kernel_rfl))
  f333 := Tryd.func83.trans (congrArg some (by kernel_rfl))
  f334 := Tryd.func86.trans (congrArg some (by kernel_rfl))
  f335 := Tryd.func87.trans (congrArg some (by kernel_rfl))
  f336 := Tryd.func88.trans (congrArg some (by kernel_rfl))
  f344 := Tryd.func93.trans (congrArg some (by kernel_rfl))
  t0 := Tryd.underlying0
  a0 := Tryd.isAgg0
  z0 := Tryd.sizeOf0
  v0 := Tryd.zeroValue0
  t3 := Tryd.underlying3
  a3 := Tryd.isAgg3
  z3 := Tryd.sizeOf3
  v3 := Tryd.zeroValue3
  t4 := Tryd.underlying4
  a4 := Tryd.isAgg4
  z4 := Tryd.sizeOf4
  v4 := Tryd.zeroValue4
  t5 := Tryd.underlying5
  a5 := Tryd.isAgg5
  z5 := Tryd.sizeOf5
  v5 := Tryd.zeroValue5
  t9 := Tryd.underlying9
  a9 := Tryd.isAgg9
  z9 := Tryd.sizeOf9
  v9 := Tryd.zeroValue9
  t31 := Tryd.underlying35
  a31 := Tryd.isAgg35
  z31 := Tryd.sizeOf35
  v31 := Tryd.zeroValue35
  t46 := Tryd.underlying108
  a46 := Tryd.isAgg108
  z46 := Tryd.sizeOf108
  v46 := Tryd.zeroValue108
  t51 := Tryd.underlying69
  a51 := Tryd.isAgg69
  z51 := Tryd.sizeOf69
  v51 := Tryd.zeroValue69
  t53 := Tryd.underlying130
  a53 := Tryd.isAgg130
  z53 := Tryd.sizeOf130
  v53 := Tryd.zeroValue130
  t131 := Tryd.underlying126
  a131 := Tryd.isAgg126
  z131 := Tryd.sizeOf126
  v131 := Tryd.zeroValue126
  t182 := Tryd.underlying121
  a182 := Tryd.isAgg121
  z182 := Tryd.sizeOf121
  v182 := Tryd.zeroValue121
  t183 := Tryd.underlying122
  a183 := Tryd.isAgg122
  z183 := Tryd.sizeOf122
  v183 := Tryd.zeroValue122
  t218 := Tryd.underlying135
  a218 := Tryd.isAgg135
  z218 := Tryd.sizeOf135
  v218 := Tryd.zeroValue135
  t222 := Tryd.underlying139
  a222 := Tryd.isAgg139
  z222 := Tryd.sizeOf139
  v222 := Tryd.zeroValue139
  t228 := Tryd.underlying146
  a228 := Tryd.isAgg146
  z228 := Tryd.sizeOf146
  v228 := Tryd.zeroValue146
  t229 := Tryd.underlying147
  a229 := Tryd.isAgg147
  z229 := Tryd.sizeOf147
  v229 := Tryd.zeroValue147 }
open Go.Sort Go.RowKit in
theorem Tryd.sort_Strings (blk off cap : Nat) (ss : List (List UInt8)) (w : World) (hH : Holds encStr w blk off ss.toArray) (hblk : blk < w.heap.size) (hsz : ss.length < 4611686018427387904) :
    Calls Tryd.prog 50 #[.slice (some ⟨blk, off, none⟩) ss.length cap] w fun e w' =>
      e = .returned (.tuple #[]) ∧ ∃ n os, w' = grow (putRow encStr (Sort.ahead w n) blk off (ss.mergeSort fun x y => decide (x ≤ y)).toArray) os := Any.sort_Strings Tryd.lays192 blk off cap ss w hH hblk hsz
open Go.RowKit Go.Sort in
theorem Tryd.sort_Strings_none (p : Option Addr) (cap : Nat) (w : World) :
    Calls Tryd.prog 50 #[.slice p 0 cap] w fun e w' => e = .returned (.tuple #[]) ∧ w' = w := Any.sort_Strings_none Tryd.lays192 p cap w
end Go.Proofs
