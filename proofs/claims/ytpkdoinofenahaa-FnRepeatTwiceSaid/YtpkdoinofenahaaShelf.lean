/- Contracts of Go's library, laid by the kit's shelf tools at this translation: each is one application of a theorem of the kit's library. -/
import Derived.Shelf.Strings.Builder1
import Derived.Shelf.Strings.Builder2
import Derived.Shelf.Strings.BuilderF
import Derived.Shelf.Strings.Prefix
import Derived.Shelf.Bits.Mul64
import Derived.Shelf.Strings.Repeat
import Derived.Ground.PaProg
import Derived.Shelf.Path.Small
import Derived.Shelf.Path.LazyBuf
import Derived.Shelf.Path.CleanRel
import Derived.Shelf.Path.CleanAbs
import Derived.Shelf.Path.Clean
import Derived.Shelf.Path.CleanRules
import Derived.Test.YtpkdoinofenahaaProg
namespace Go.Proofs
open Go.Shelf
def Try.lays105_ren : Go.Shelf.Ren := ⟨fun | 105 => 39 | 212 => 43 | 99 => 44 | 165 => 45 | 166 => 46 | 170 => 47 | 169 => 48 | 263 => 52 | 264 => 53 | 206 => 54 | 240 => 55 | 241 => 56 | 276 => 57 | 277 => 58 | n => n, fun | 9 => 9 | 3 => 3 | 4 => 4 | 20 => 20 | 0 => 0 | 46 => 42 | 109 => 43 | 5 => 5 | 72 => 48 | 76 => 52 | 51 => 60 | 146 => 61 | 53 => 63 | 148 => 64 | 70 => 45 | 37 => 46 | 75 => 51 | 127 => 66 | 164 => 68 | 80 => 55 | n => n, fun | n => n⟩
theorem Try.lays105 : Go.Proofs.Lays.n105 Try.prog Try.lays105_ren := {
  mixed := by kernel_rfl
  f99 := Try.func44.trans (congrArg some (by kernel_rfl))
  f105 := Try.func39.trans (congrArg some (by kernel_rfl))
  f165 := Try.func45.trans (congrArg some (by kernel_rfl))
  f166 := Try.func46.trans (congrArg some (by kernel_rfl))
  f169 := Try.func48.trans (congrArg some (by kernel_rfl))
  f170 := Try.func47.trans (congrArg some (by kernel_rfl))
  f206 := Try.func54.trans (congrArg some (by kernel_rfl))
  f212 := Try.func43.trans (congrArg some (by kernel_rfl))
  f240 := Try.func55.trans (congrArg some (by kernel_rfl))
  f241 := Try.func56.trans (congrArg some (by kernel_rfl))
  f263 := Try.func52.trans (congrArg some (by kernel_rfl))
  f264 := Try.func53.trans (congrArg some (by kernel_rfl))
  f276 := Try.func57.trans (congrArg some (by kernel_rfl))
  f277 := Try.func58.trans (congrArg some (by kernel_rfl))
  t0 := Try.underlying0
  a0 := Try.isAgg0
  z0 := Try.sizeOf0
  v0 := Try.zeroValue0
  t3 := Try.underlying3
  a3 := Try.isAgg3
  z3 := Try.sizeOf3
  v3 := Try.zeroValue3
  t4 := Try.underlying4
  a4 := Try.isAgg4
  z4 := Try.sizeOf4
  v4 := Try.zeroValue4
  t5 := Try.underlying5
  a5 := Try.isAgg5
  z5 := Try.sizeOf5
  v5 := Try.zeroValue5
  t9 := Try.underlying9
  a9 := Try.isAgg9
  z9 := Try.sizeOf9
  v9 := Try.zeroValue9
  t20 := Try.underlying20
  a20 := Try.isAgg20
  z20 := Try.sizeOf20
  v20 := Try.zeroValue20
  t37 := Try.underlying46
  a37 := Try.isAgg46
  z37 := Try.sizeOf46
  v37 := Try.zeroValue46
  t46 := Try.underlying42
  a46 := Try.isAgg42
  z46 := Try.sizeOf42
  v46 := Try.zeroValue42
  t51 := Try.underlying60
  a51 := Try.isAgg60
  z51 := Try.sizeOf60
  v51 := Try.zeroValue60
  t53 := Try.underlying63
  a53 := Try.isAgg63
  z53 := Try.sizeOf63
  v53 := Try.zeroValue63
  t70 := Try.underlying45
  a70 := Try.isAgg45
  z70 := Try.sizeOf45
  v70 := Try.zeroValue45
  t72 := Try.underlying48
  a72 := Try.isAgg48
  z72 := Try.sizeOf48
  v72 := Try.zeroValue48
  t75 := Try.underlying51
  a75 := Try.isAgg51
  z75 := Try.sizeOf51
  v75 := Try.zeroValue51
  t76 := Try.underlying52
  a76 := Try.isAgg52
  z76 := Try.sizeOf52
  v76 := Try.zeroValue52
  t109 := Try.underlying43
  a109 := Try.isAgg43
  z109 := Try.sizeOf43
  v109 := Try.zeroValue43
  t127 := Try.underlying66
  a127 := Try.isAgg66
  z127 := Try.sizeOf66
  v127 := Try.zeroValue66
  t146 := Try.underlying61
  a146 := Try.isAgg61
  z146 := Try.sizeOf61
  v146 := Try.zeroValue61
  t148 := Try.underlying64
  a148 := Try.isAgg64
  z148 := Try.sizeOf64
  v148 := Try.zeroValue64
  t164 := Try.underlying68
  a164 := Try.isAgg68
  z164 := Try.sizeOf68
  v164 := Try.zeroValue68 }
theorem Try.Builder_Extra_105 : Builder.Extra Try.prog Try.lays105_ren := {
  sizeBuilder := by kernel_rfl
  liesBuilder := by kernel_rfl
  t5 := Try.underlying5
  a5 := Try.isAgg5
  z5 := Try.sizeOf5
  v5 := Try.zeroValue5
  infoByte := by kernel_rfl
  cellsByte := by kernel_rfl
  sizeByte := by kernel_rfl
  neB5 := by decide }
open Go.RowKit Go.Lib in
theorem Try.strings_Repeat (s : ByteArray) (c : Nat) (w : World) (hc : c ≤ 9223372036854775807) (hlen : s.size * c ≤ 140737488355328) :
    Calls Try.prog 39 #[.string s, .int .i64 c] w fun e w' => e = .returned (.string ⟨(Lib.repeatL s.data.toList c).toArray⟩) ∧ Below w.heap.size w w' := Any.strings_Repeat Try.lays105 Try.Builder_Extra_105 s c w hc hlen
def Try.laysPah30_ren : Go.Shelf.Ren := ⟨fun | 30 => 42 | 46 => 49 | 47 => 50 | 48 => 51 | n => n, fun | 9 => 9 | 4 => 4 | 5 => 5 | 3 => 3 | 42 => 57 | 0 => 0 | 48 => 67 | 30 => 46 | n => n, fun | n => n⟩
theorem Try.laysPah30 : Go.Proofs.Lays.ph30 Try.prog Try.laysPah30_ren := {
  mixed := by kernel_rfl
  f30 := Try.func42.trans (congrArg some (by kernel_rfl))
  f46 := Try.func49.trans (congrArg some (by kernel_rfl))
  f47 := Try.func50.trans (congrArg some (by kernel_rfl))
  f48 := Try.func51.trans (congrArg some (by kernel_rfl))
  t0 := Try.underlying0
  a0 := Try.isAgg0
  z0 := Try.sizeOf0
  v0 := Try.zeroValue0
  t3 := Try.underlying3
  a3 := Try.isAgg3
  z3 := Try.sizeOf3
  v3 := Try.zeroValue3
  t4 := Try.underlying4
  a4 := Try.isAgg4
  z4 := Try.sizeOf4
  v4 := Try.zeroValue4
  t5 := Try.underlying5
  a5 := Try.isAgg5
  z5 := Try.sizeOf5
  v5 := Try.zeroValue5
  t9 := Try.underlying9
  a9 := Try.isAgg9
  z9 := Try.sizeOf9
  v9 := Try.zeroValue9
  t30 := Try.underlying46
  a30 := Try.isAgg46
  z30 := Try.sizeOf46
  v30 := Try.zeroValue46
  t42 := Try.underlying57
  a42 := Try.isAgg57
  z42 := Try.sizeOf57
  v42 := Try.zeroValue57
  t48 := Try.underlying67
  a48 := Try.isAgg67
  z48 := Try.sizeOf67
  v48 := Try.zeroValue67
  info5 := by kernel_rfl }
open Go.RowKit Go.Lib in
theorem Try.path_Clean_rules (s : ByteArray) (w : World) (hbig : s.size ≤ 281474976710656) :
    Calls Try.prog 42 #[.string s] w fun e w' => e = .returned (.string ⟨(Pa.cleanEls s.data.toList).toArray⟩) ∧ Below w.heap.size w w' := Any.path_Clean_rules Try.laysPah30 s w hbig
end Go.Proofs
