/- Contracts of Go's library, laid by the kit's shelf tools at this translation: each is one application of a theorem of the kit's library. -/
import Derived.Shelf.Strings.Builder1
import Derived.Shelf.Strings.Builder2
import Derived.Shelf.Small.Utf8
import Derived.Shelf.Strings.BuilderF
import Derived.Shelf.Strings.BuilderK
import Derived.Shelf.Strings.BuilderRune
import Derived.Shelf.Utf8.RuneCount
import Derived.Shelf.Unicode.Latin
import Derived.Shelf.Unicode.Props
import Derived.Shelf.Unicode.Decode
import Derived.Shelf.Unicode.DecodeSlow
import Derived.Shelf.Unicode.DecodeAny
import Derived.Shelf.Unicode.Is16White
import Derived.Shelf.Unicode.IsSpaceAny
import Derived.Shelf.Unicode.CaseLookup
import Derived.Shelf.Unicode.CaseConvert
import Derived.Shelf.Unicode.CaseTo
import Derived.Shelf.Unicode.CaseLaid
import Derived.Shelf.Unicode.Is16Any
import Derived.Shelf.Unicode.Is32Any
import Derived.Shelf.Unicode.ExclAny
import Derived.Shelf.Unicode.PredsAny
import Derived.Test.YtpkdoinofenahaaDoorProg
namespace Go.Proofs
open Go.Shelf
def Tryd.lays169_ren : Go.Shelf.Ren := ⟨fun | 169 => 70 | n => n, fun | 70 => 52 | 9 => 9 | 0 => 0 | 72 => 56 | 37 => 44 | 127 => 76 | 3 => 3 | 5 => 5 | n => n, fun | n => n⟩
theorem Tryd.lays169 : Go.Proofs.Lays.n169 Tryd.prog Tryd.lays169_ren := {
  mixed := by kernel_rfl
  f169 := Tryd.func70.trans (congrArg some (by kernel_rfl))
  t0 := Tryd.underlying0
  a0 := Tryd.isAgg0
  z0 := Tryd.sizeOf0
  v0 := Tryd.zeroValue0
  t3 := Tryd.underlying3
  a3 := Tryd.isAgg3
  z3 := Tryd.sizeOf3
  v3 := Tryd.zeroValue3
  t9 := Tryd.underlying9
  a9 := Tryd.isAgg9
  z9 := Tryd.sizeOf9
  v9 := Tryd.zeroValue9
  t37 := Tryd.underlying44
  a37 := Tryd.isAgg44
  z37 := Tryd.sizeOf44
  v37 := Tryd.zeroValue44
  t70 := Tryd.underlying52
  a70 := Tryd.isAgg52
  z70 := Tryd.sizeOf52
  v70 := Tryd.zeroValue52
  t72 := Tryd.underlying56
  a72 := Tryd.isAgg56
  z72 := Tryd.sizeOf56
  v72 := Tryd.zeroValue56
  t127 := Tryd.underlying76
  a127 := Tryd.isAgg76
  z127 := Tryd.sizeOf76
  v127 := Tryd.zeroValue76 }
theorem Tryd.Builder_Extra_169 : Builder.Extra Tryd.prog Tryd.lays169_ren := {
  sizeBuilder := by kernel_rfl
  liesBuilder := by kernel_rfl
  t5 := Tryd.underlying5
  a5 := Tryd.isAgg5
  z5 := Tryd.sizeOf5
  v5 := Tryd.zeroValue5
  infoByte := by kernel_rfl
  cellsByte := by kernel_rfl
  sizeByte := by kernel_rfl
  neB5 := by decide }
open Go.RowKit in
theorem Tryd.Builder_String_any (B b : Nat) (l : List UInt8) (w : World) (h : Lib.IsBuilder 56 5 B b (Lib.byteCells l) w) (hBw : B ≤ w.heap.size) :
    Calls Tryd.prog 70 #[.pointer (some ⟨b, 0, none⟩)] w fun e w' => e = .returned (.string ⟨l.toArray⟩) ∧ Below B w w' := Any.Builder_String_any Tryd.lays169 Tryd.Builder_Extra_169 B b l w h hBw
def Tryd.lays165_ren : Go.Shelf.Ren := ⟨fun | 165 => 71 | 240 => 93 | 241 => 94 | 276 => 107 | 277 => 108 | n => n, fun | 70 => 52 | 3 => 3 | 0 => 0 | 4 => 4 | 9 => 9 | 20 => 20 | 72 => 56 | 37 => 44 | 164 => 93 | 5 => 5 | n => n, fun | n => n⟩
theorem Tryd.lays165 : Go.Proofs.Lays.n165 Tryd.prog Tryd.lays165_ren := {
  mixed := by kernel_rfl
  f165 := Tryd.func71.trans (congrArg some (by kernel_rfl))
  f240 := Tryd.func93.trans (congrArg some (by kernel_rfl))
  f241 := Tryd.func94.trans (congrArg some (by kernel_rfl))
  f276 := Tryd.func107.trans (congrArg some (by kernel_rfl))
  f277 := Tryd.func108.trans (congrArg some (by kernel_rfl))
  t0 := Tryd.underlying0
  a0 := Tryd.isAgg0
  z0 := Tryd.sizeOf0
  v0 := Tryd.zeroValue0
  t3 := Tryd.underlying3
  a3 := Tryd.isAgg3
  z3 := Tryd.sizeOf3
  v3 := Tryd.zeroValue3
  t4 := Tryd.underlying4
  a4 := Tryd.isAgg4
  z4 := Tryd.sizeOf4
  v4 := Tryd.zeroValue4
  t9 := Tryd.underlying9
  a9 := Tryd.isAgg9
  z9 := Tryd.sizeOf9
  v9 := Tryd.zeroValue9
  t20 := Tryd.underlying20
  a20 := Tryd.isAgg20
  z20 := Tryd.sizeOf20
  v20 := Tryd.zeroValue20
  t37 := Tryd.underlying44
  a37 := Tryd.isAgg44
  z37 := Tryd.sizeOf44
  v37 := Tryd.zeroValue44
  t70 := Tryd.underlying52
  a70 := Tryd.isAgg52
  z70 := Tryd.sizeOf52
  v70 := Tryd.zeroValue52
  t72 := Tryd.underlying56
  a72 := Tryd.isAgg56
  z72 := Tryd.sizeOf56
  v72 := Tryd.zeroValue56
  t164 := Tryd.underlying93
  a164 := Tryd.isAgg93
  z164 := Tryd.sizeOf93
  v164 := Tryd.zeroValue93 }
theorem Tryd.Builder_Extra_165 : Builder.Extra Tryd.prog Tryd.lays165_ren := {
  sizeBuilder := by kernel_rfl
  liesBuilder := by kernel_rfl
  t5 := Tryd.underlying5
  a5 := Tryd.isAgg5
  z5 := Tryd.sizeOf5
  v5 := Tryd.zeroValue5
  infoByte := by kernel_rfl
  cellsByte := by kernel_rfl
  sizeByte := by kernel_rfl
  neB5 := by decide }
open Go.RowKit in
theorem Tryd.Builder_Grow_fresh (B b n : Nat) (w : World) (hB : B ≤ b) (hbk : w.heap[b]? = some (.cells #[.pointer none, .slice none 0 0] 56 (0, 0))) (hBw : B ≤ w.heap.size) (hn : n ≤ 281474976710656) :
    Calls Tryd.prog 71 #[.pointer (some ⟨b, 0, none⟩), .int .i64 n] w fun e w' => e = .returned (.tuple #[]) ∧ (Lib.BuilderAt 56 5 B b (.pointer (some ⟨b, 0, none⟩)) [] w' ∧ Below B w w') := Any.Builder_Grow_fresh Tryd.lays165 Tryd.Builder_Extra_165 B b n w hB hbk hBw hn
def Tryd.lays195_ren : Go.Shelf.Ren := ⟨fun | 195 => 73 | n => n, fun | 9 => 9 | 3 => 3 | 0 => 0 | 4 => 4 | n => n, fun | n => n⟩
theorem Tryd.lays195 : Go.Proofs.Lays.n195 Tryd.prog Tryd.lays195_ren := {
  mixed := by kernel_rfl
  f195 := Tryd.func73.trans (congrArg some (by kernel_rfl))
  t0 := Tryd.underlying0
  a0 := Tryd.isAgg0
  z0 := Tryd.sizeOf0
  v0 := Tryd.zeroValue0
  t3 := Tryd.underlying3
  a3 := Tryd.isAgg3
  z3 := Tryd.sizeOf3
  v3 := Tryd.zeroValue3
  t4 := Tryd.underlying4
  a4 := Tryd.isAgg4
  z4 := Tryd.sizeOf4
  v4 := Tryd.zeroValue4
  t9 := Tryd.underlying9
  a9 := Tryd.isAgg9
  z9 := Tryd.sizeOf9
  v9 := Tryd.zeroValue9 }
open Go.RowKit in
theorem Tryd.utf8_RuneCountInString (s : ByteArray) (w : World) (hs : s.size < 9223372036854775807) :
    Calls Tryd.prog 73 #[.string s] w fun e w' => e = .returned (.int .i64 (Lib.runeCount s)) ∧ ∃ pos, w' = w.iter s pos := Any.utf8_RuneCountInString Tryd.lays195 s w hs
def Tryd.lays199_ren : Go.Shelf.Ren := ⟨fun | 199 => 102 | 261 => 104 | 311 => 117 | 312 => 118 | n => n, fun | 21 => 21 | 4 => 4 | 51 => 84 | 141 => 88 | 0 => 0 | 196 => 106 | 193 => 103 | 3 => 3 | 198 => 109 | 49 => 107 | 194 => 104 | 201 => 112 | 226 => 118 | 46 => 89 | 227 => 119 | n => n, fun | 6 => 8 | n => n⟩
theorem Tryd.lays199 : Go.Proofs.Lays.n199 Tryd.prog Tryd.lays199_ren := {
  mixed := by kernel_rfl
  f199 := Tryd.func102.trans (congrArg some (by kernel_rfl))
  f261 := Tryd.func104.trans (congrArg some (by kernel_rfl))
  f311 := Tryd.func117.trans (congrArg some (by kernel_rfl))
  f312 := Tryd.func118.trans (congrArg some (by kernel_rfl))
  t0 := Tryd.underlying0
  a0 := Tryd.isAgg0
  z0 := Tryd.sizeOf0
  v0 := Tryd.zeroValue0
  t3 := Tryd.underlying3
  a3 := Tryd.isAgg3
  z3 := Tryd.sizeOf3
  v3 := Tryd.zeroValue3
  t4 := Tryd.underlying4
  a4 := Tryd.isAgg4
  z4 := Tryd.sizeOf4
  v4 := Tryd.zeroValue4
  t21 := Tryd.underlying21
  a21 := Tryd.isAgg21
  z21 := Tryd.sizeOf21
  v21 := Tryd.zeroValue21
  t46 := Tryd.underlying89
  a46 := Tryd.isAgg89
  z46 := Tryd.sizeOf89
  v46 := Tryd.zeroValue89
  t49 := Tryd.underlying107
  a49 := Tryd.isAgg107
  z49 := Tryd.sizeOf107
  v49 := Tryd.zeroValue107
  t51 := Tryd.underlying84
  a51 := Tryd.isAgg84
  z51 := Tryd.sizeOf84
  v51 := Tryd.zeroValue84
  t141 := Tryd.underlying88
  a141 := Tryd.isAgg88
  z141 := Tryd.sizeOf88
  v141 := Tryd.zeroValue88
  t193 := Tryd.underlying103
  a193 := Tryd.isAgg103
  z193 := Tryd.sizeOf103
  v193 := Tryd.zeroValue103
  t194 := Tryd.underlying104
  a194 := Tryd.isAgg104
  z194 := Tryd.sizeOf104
  v194 := Tryd.zeroValue104
  t196 := Tryd.underlying106
  a196 := Tryd.isAgg106
  z196 := Tryd.sizeOf106
  v196 := Tryd.zeroValue106
  t198 := Tryd.underlying109
  a198 := Tryd.isAgg109
  z198 := Tryd.sizeOf109
  v198 := Tryd.zeroValue109
  t201 := Tryd.underlying112
  a201 := Tryd.isAgg112
  z201 := Tryd.sizeOf112
  v201 := Tryd.zeroValue112
  t226 := Tryd.underlying118
  a226 := Tryd.isAgg118
  z226 := Tryd.sizeOf118
  v226 := Tryd.zeroValue118
  t227 := Tryd.underlying119
  a227 := Tryd.isAgg119
  z227 := Tryd.sizeOf119
  v227 := Tryd.zeroValue119
  g6 := by kernel_rfl }
open Go.RowKit Go.Lib in
theorem Tryd.unicode_IsSpace (r : Int) (w : World) (h0 : 0 ≤ r) (h : r ≤ 255) :
    Calls Tryd.prog 102 #[.int .i32 r] w fun e w' => e = .returned (.bool (Lib.isSpaceL r)) ∧ w' = w := Any.unicode_IsSpace Tryd.lays199 r w h0 h
def Tryd.lays203_ren : Go.Shelf.Ren := ⟨fun | 203 => 76 | 262 => 95 | 313 => 109 | 274 => 122 | 275 => 123 | n => n, fun | 21 => 21 | 4 => 4 | 3 => 3 | 162 => 98 | 203 => 96 | 160 => 115 | 46 => 89 | 0 => 0 | 208 => 124 | 51 => 84 | 206 => 122 | n => n, fun | 13 => 5 | n => n⟩
theorem Tryd.lays203 : Go.Proofs.Lays.n203 Tryd.prog Tryd.lays203_ren := {
  mixed := by kernel_rfl
  f203 := Tryd.func76.trans (congrArg some (by kernel_rfl))
  f262 := Tryd.func95.trans (congrArg some (by kernel_rfl))
  f274 := Tryd.func122.trans (congrArg some (by kernel_rfl))
  f275 := Tryd.func123.trans (congrArg some (by kernel_rfl))
  f313 := Tryd.func109.trans (congrArg some (by kernel_rfl))
  t0 := Tryd.underlying0
  a0 := Tryd.isAgg0
  z0 := Tryd.sizeOf0
  v0 := Tryd.zeroValue0
  t3 := Tryd.underlying3
  a3 := Tryd.isAgg3
  z3 := Tryd.sizeOf3
  v3 := Tryd.zeroValue3
  t4 := Tryd.underlying4
  a4 := Tryd.isAgg4
  z4 := Tryd.sizeOf4
  v4 := Tryd.zeroValue4
  t21 := Tryd.underlying21
  a21 := Tryd.isAgg21
  z21 := Tryd.sizeOf21
  v21 := Tryd.zeroValue21
  t46 := Tryd.underlying89
  a46 := Tryd.isAgg89
  z46 := Tryd.sizeOf89
  v46 := Tryd.zeroValue89
  t51 := Tryd.underlying84
  a51 := Tryd.isAgg84
  z51 := Tryd.sizeOf84
  v51 := Tryd.zeroValue84
  t160 := Tryd.underlying115
  a160 := Tryd.isAgg115
  z160 := Tryd.sizeOf115
  v160 := Tryd.zeroValue115
  t162 := Tryd.underlying98
  a162 := Tryd.isAgg98
  z162 := Tryd.sizeOf98
  v162 := Tryd.zeroValue98
  t203 := Tryd.underlying96
  a203 := Tryd.isAgg96
  z203 := Tryd.sizeOf96
  v203 := Tryd.zeroValue96
  t206 := Tryd.underlying122
  a206 := Tryd.isAgg122
  z206 := Tryd.sizeOf122
  v206 := Tryd.zeroValue122
  t208 := Tryd.underlying124
  a208 := Tryd.isAgg124
  z208 := Tryd.sizeOf124
  v208 := Tryd.zeroValue124
  g13 := by kernel_rfl }
open Go.RowKit Go.Lib in
theorem Tryd.unicode_ToUpper (r : Int) (w : World) (h : r ≤ 127) :
    Calls Tryd.prog 76 #[.int .i32 r] w fun e w' => e = .returned (.int .i32 (Lib.toUpperR r)) ∧ w' = w := Any.unicode_ToUpper Tryd.lays203 r w h
def Tryd.lays204_ren : Go.Shelf.Ren := ⟨fun | 204 => 74 | 262 => 95 | 313 => 109 | 274 => 122 | 275 => 123 | n => n, fun | 21 => 21 | 4 => 4 | 3 => 3 | 162 => 98 | 203 => 96 | 160 => 115 | 46 => 89 | 0 => 0 | 208 => 124 | 51 => 84 | 206 => 122 | n => n, fun | 13 => 5 | n => n⟩
theorem Tryd.lays204 : Go.Proofs.Lays.n204 Tryd.prog Tryd.lays204_ren := {
  mixed := by kernel_rfl
  f204 := Tryd.func74.trans (congrArg some (by kernel_rfl))
  f262 := Tryd.func95.trans (congrArg some (by kernel_rfl))
  f274 := Tryd.func122.trans (congrArg some (by kernel_rfl))
  f275 := Tryd.func123.trans (congrArg some (by kernel_rfl))
  f313 := Tryd.func109.trans (congrArg some (by kernel_rfl))
  t0 := Tryd.underlying0
  a0 := Tryd.isAgg0
  z0 := Tryd.sizeOf0
  v0 := Tryd.zeroValue0
  t3 := Tryd.underlying3
  a3 := Tryd.isAgg3
  z3 := Tryd.sizeOf3
  v3 := Tryd.zeroValue3
  t4 := Tryd.underlying4
  a4 := Tryd.isAgg4
  z4 := Tryd.sizeOf4
  v4 := Tryd.zeroValue4
  t21 := Tryd.underlying21
  a21 := Tryd.isAgg21
  z21 := Tryd.sizeOf21
  v21 := Tryd.zeroValue21
  t46 := Tryd.underlying89
  a46 := Tryd.isAgg89
  z46 := Tryd.sizeOf89
  v46 := Tryd.zeroValue89
  t51 := Tryd.underlying84
  a51 := Tryd.isAgg84
  z51 := Tryd.sizeOf84
  v51 := Tryd.zeroValue84
  t160 := Tryd.underlying115
  a160 := Tryd.isAgg115
  z160 := Tryd.sizeOf115
  v160 := Tryd.zeroValue115
  t162 := Tryd.underlying98
  a162 := Tryd.isAgg98
  z162 := Tryd.sizeOf98
  v162 := Tryd.zeroValue98
  t203 := Tryd.underlying96
  a203 := Tryd.isAgg96
  z203 := Tryd.sizeOf96
  v203 := Tryd.zeroValue96
  t206 := Tryd.underlying122
  a206 := Tryd.isAgg122
  z206 := Tryd.sizeOf122
  v206 := Tryd.zeroValue122
  t208 := Tryd.underlying124
  a208 := Tryd.isAgg124
  z208 := Tryd.sizeOf124
  v208 := Tryd.zeroValue124
  g13 := by kernel_rfl }
open Go.RowKit Go.Lib in
theorem Tryd.unicode_ToLower (r : Int) (w : World) (h : r ≤ 127) :
    Calls Tryd.prog 74 #[.int .i32 r] w fun e w' => e = .returned (.int .i32 (Lib.toLowerR r)) ∧ w' = w := Any.unicode_ToLower Tryd.lays204 r w h
def Tryd.lays201_ren : Go.Shelf.Ren := ⟨fun | 201 => 87 | 261 => 104 | 311 => 117 | 312 => 118 | n => n, fun | 21 => 21 | 4 => 4 | 51 => 84 | 5 => 5 | 119 => 86 | 0 => 0 | 141 => 88 | 196 => 106 | 193 => 103 | 3 => 3 | 198 => 109 | 49 => 107 | 194 => 104 | 201 => 112 | 226 => 118 | 46 => 89 | 227 => 119 | n => n, fun | 7 => 0 | 9 => 1 | n => n⟩
theorem Tryd.lays201 : Go.Proofs.Lays.n201 Tryd.prog Tryd.lays201_ren := {
  mixed := by kernel_rfl
  f201 := Tryd.func87.trans (congrArg some (by kernel_rfl))
  f261 := Tryd.func104.trans (congrArg some (by kernel_rfl))
  f311 := Tryd.func117.trans (congrArg some (by kernel_rfl))
  f312 := Tryd.func118.trans (congrArg some (by kernel_rfl))
  t0 := Tryd.underlying0
  a0 := Tryd.isAgg0
  z0 := Tryd.sizeOf0
  v0 := Tryd.zeroValue0
  t3 := Tryd.underlying3
  a3 := Tryd.isAgg3
  z3 := Tryd.sizeOf3
  v3 := Tryd.zeroValue3
  t4 := Tryd.underlying4
  a4 := Tryd.isAgg4
  z4 := Tryd.sizeOf4
  v4 := Tryd.zeroValue4
  t5 := Tryd.underlying5
  a5 := Tryd.isAgg5
  z5 := Tryd.sizeOf5
  v5 := Tryd.zeroValue5
  t21 := Tryd.underlying21
  a21 := Tryd.isAgg21
  z21 := Tryd.sizeOf21
  v21 := Tryd.zeroValue21
  t46 := Tryd.underlying89
  a46 := Tryd.isAgg89
  z46 := Tryd.sizeOf89
  v46 := Tryd.zeroValue89
  t49 := Tryd.underlying107
  a49 := Tryd.isAgg107
  z49 := Tryd.sizeOf107
  v49 := Tryd.zeroValue107
  t51 := Tryd.underlying84
  a51 := Tryd.isAgg84
  z51 := Tryd.sizeOf84
  v51 := Tryd.zeroValue84
  t119 := Tryd.underlying86
  a119 := Tryd.isAgg86
  z119 := Tryd.sizeOf86
  t141 := Tryd.underlying88
  a141 := Tryd.isAgg88
  z141 := Tryd.sizeOf88
  v141 := Tryd.zeroValue88
  t193 := Tryd.underlying103
  a193 := Tryd.isAgg103
  z193 := Tryd.sizeOf103
  v193 := Tryd.zeroValue103
  t194 := Tryd.underlying104
  a194 := Tryd.isAgg104
  z194 := Tryd.sizeOf104
  v194 := Tryd.zeroValue104
  t196 := Tryd.underlying106
  a196 := Tryd.isAgg106
  z196 := Tryd.sizeOf106
  v196 := Tryd.zeroValue106
  t198 := Tryd.underlying109
  a198 := Tryd.isAgg109
  z198 := Tryd.sizeOf109
  v198 := Tryd.zeroValue109
  t201 := Tryd.underlying112
  a201 := Tryd.isAgg112
  z201 := Tryd.sizeOf112
  v201 := Tryd.zeroValue112
  t226 := Tryd.underlying118
  a226 := Tryd.isAgg118
  z226 := Tryd.sizeOf118
  v226 := Tryd.zeroValue118
  t227 := Tryd.underlying119
  a227 := Tryd.isAgg119
  z227 := Tryd.sizeOf119
  v227 := Tryd.zeroValue119
  g7 := by kernel_rfl
  g9 := by kernel_rfl }
open Go.RowKit Go.Lib in
theorem Tryd.unicode_IsUpper (c : Nat) (w : World) (hc : c < 256) (htab : Lib.TabIs Tryd.prog w "unicode.properties" .u8 Lib.propertiesTab) :
    Calls Tryd.prog 87 #[.int .i32 c] w fun e w' => e = .returned (.bool (Lib.isUpperL c)) ∧ w' = w := Any.unicode_IsUpper Tryd.lays201 (by kernel_rfl) c w hc htab
def Tryd.lays202_ren : Go.Shelf.Ren := ⟨fun | 202 => 88 | 261 => 104 | 311 => 117 | 312 => 118 | n => n, fun | 21 => 21 | 4 => 4 | 51 => 84 | 5 => 5 | 119 => 86 | 0 => 0 | 141 => 88 | 196 => 106 | 193 => 103 | 3 => 3 | 198 => 109 | 49 => 107 | 194 => 104 | 201 => 112 | 226 => 118 | 46 => 89 | 227 => 119 | n => n, fun | 7 => 0 | 10 => 2 | n => n⟩
theorem Tryd.lays202 : Go.Proofs.Lays.n202 Tryd.prog Tryd.lays202_ren := {
  mixed := by kernel_rfl
  f202 := Tryd.func88.trans (congrArg some (by kernel_rfl))
  f261 := Tryd.func104.trans (congrArg some (by kernel_rfl))
  f311 := Tryd.func117.trans (congrArg some (by kernel_rfl))
  f312 := Tryd.func118.trans (congrArg some (by kernel_rfl))
  t0 := Tryd.underlying0
  a0 := Tryd.isAgg0
  z0 := Tryd.sizeOf0
  v0 := Tryd.zeroValue0
  t3 := Tryd.underlying3
  a3 := Tryd.isAgg3
  z3 := Tryd.sizeOf3
  v3 := Tryd.zeroValue3
  t4 := Tryd.underlying4
  a4 := Tryd.isAgg4
  z4 := Tryd.sizeOf4
  v4 := Tryd.zeroValue4
  t5 := Tryd.underlying5
  a5 := Tryd.isAgg5
  z5 := Tryd.sizeOf5
  v5 := Tryd.zeroValue5
  t21 := Tryd.underlying21
  a21 := Tryd.isAgg21
  z21 := Tryd.sizeOf21
  v21 := Tryd.zeroValue21
  t46 := Tryd.underlying89
  a46 := Tryd.isAgg89
  z46 := Tryd.sizeOf89
  v46 := Tryd.zeroValue89
  t49 := Tryd.underlying107
  a49 := Tryd.isAgg107
  z49 := Tryd.sizeOf107
  v49 := Tryd.zeroValue107
  t51 := Tryd.underlying84
  a51 := Tryd.isAgg84
  z51 := Tryd.sizeOf84
  v51 := Tryd.zeroValue84
  t119 := Tryd.underlying86
  a119 := Tryd.isAgg86
  z119 := Tryd.sizeOf86
  t141 := Tryd.underlying88
  a141 := Tryd.isAgg88
  z141 := Tryd.sizeOf88
  v141 := Tryd.zeroValue88
  t193 := Tryd.underlying103
  a193 := Tryd.isAgg103
  z193 := Tryd.sizeOf103
  v193 := Tryd.zeroValue103
  t194 := Tryd.underlying104
  a194 := Tryd.isAgg104
  z194 := Tryd.sizeOf104
  v194 := Tryd.zeroValue104
  t196 := Tryd.underlying106
  a196 := Tryd.isAgg106
  z196 := Tryd.sizeOf106
  v196 := Tryd.zeroValue106
  t198 := Tryd.underlying109
  a198 := Tryd.isAgg109
  z198 := Tryd.sizeOf109
  v198 := Tryd.zeroValue109
  t201 := Tryd.underlying112
  a201 := Tryd.isAgg112
  z201 := Tryd.sizeOf112
  v201 := Tryd.zeroValue112
  t226 := Tryd.underlying118
  a226 := Tryd.isAgg118
  z226 := Tryd.sizeOf118
  v226 := Tryd.zeroValue118
  t227 := Tryd.underlying119
  a227 := Tryd.isAgg119
  z227 := Tryd.sizeOf119
  v227 := Tryd.zeroValue119
  g7 := by kernel_rfl
  g10 := by kernel_rfl }
open Go.RowKit Go.Lib in
theorem Tryd.unicode_IsLower (c : Nat) (w : World) (hc : c < 256) (htab : Lib.TabIs Tryd.prog w "unicode.properties" .u8 Lib.propertiesTab) :
    Calls Tryd.prog 88 #[.int .i32 c] w fun e w' => e = .returned (.bool (Lib.isLowerL c)) ∧ w' = w := Any.unicode_IsLower Tryd.lays202 (by kernel_rfl) c w hc htab
def Tryd.lays197_ren : Go.Shelf.Ren := ⟨fun | 197 => 68 | 260 => 92 | n => n, fun | 9 => 9 | 21 => 21 | 3 => 3 | 4 => 4 | 5 => 5 | 105 => 53 | 119 => 86 | 0 => 0 | 46 => 89 | 139 => 92 | 138 => 91 | n => n, fun | 3 => 3 | 4 => 4 | n => n⟩
theorem Tryd.lays197 : Go.Proofs.Lays.n197 Tryd.prog Tryd.lays197_ren := {
  mixed := by kernel_rfl
  f197 := Tryd.func68.trans (congrArg some (by kernel_rfl))
  f260 := Tryd.func92.trans (congrArg some (by kernel_rfl))
  t0 := Tryd.underlying0
  a0 := Tryd.isAgg0
  z0 := Tryd.sizeOf0
  v0 := Tryd.zeroValue0
  t3 := Tryd.underlying3
  a3 := Tryd.isAgg3
  z3 := Tryd.sizeOf3
  v3 := Tryd.zeroValue3
  t4 := Tryd.underlying4
  a4 := Tryd.isAgg4
  z4 := Tryd.sizeOf4
  v4 := Tryd.zeroValue4
  t5 := Tryd.underlying5
  a5 := Tryd.isAgg5
  z5 := Tryd.sizeOf5
  v5 := Tryd.zeroValue5
  t9 := Tryd.underlying9
  a9 := Tryd.isAgg9
  z9 := Tryd.sizeOf9
  v9 := Tryd.zeroValue9
  t21 := Tryd.underlying21
  a21 := Tryd.isAgg21
  z21 := Tryd.sizeOf21
  v21 := Tryd.zeroValue21
  t46 := Tryd.underlying89
  a46 := Tryd.isAgg89
  z46 := Tryd.sizeOf89
  v46 := Tryd.zeroValue89
  t105 := Tryd.underlying53
  a105 := Tryd.isAgg53
  z105 := Tryd.sizeOf53
  v105 := Tryd.zeroValue53
  t119 := Tryd.underlying86
  a119 := Tryd.isAgg86
  z119 := Tryd.sizeOf86
  t138 := Tryd.underlying91
  a138 := Tryd.isAgg91
  z138 := Tryd.sizeOf91
  v138 := Tryd.zeroValue91
  t139 := Tryd.underlying92
  a139 := Tryd.isAgg92
  z139 := Tryd.sizeOf92
  v139 := Tryd.zeroValue92
  g3 := by kernel_rfl
  g4 := by kernel_rfl }
open Go.RowKit Go.Lib in
theorem Tryd.utf8_DecodeRuneInString_ascii (s : ByteArray) (x : UInt8) (w : World) (h0 : s.data.toList[0]? = some x) (hx : x.toNat < 128) :
    Calls Tryd.prog 68 #[.string s] w fun e w' => e = .returned (.tuple #[.int .i32 x.toNat, .int .i64 1]) ∧ w' = w := Any.utf8_DecodeRuneInString_ascii Tryd.lays197 s x w h0 hx
open Go.RowKit Go.Lib in
theorem Tryd.utf8_DecodeRuneInString (s : ByteArray) (w : World) (hT : Lib.Utf8Tabs 3 4 w) :
    Calls Tryd.prog 68 #[.string s] w fun e w' => e = .returned (.tuple #[.int .i32 (Lib.decodeGo s).1, .int .i64 (Lib.decodeGo s).2]) ∧ Below w.heap.size w w' := Any.utf8_DecodeRuneInString Tryd.lays197 s w hT
end Go.Proofs
