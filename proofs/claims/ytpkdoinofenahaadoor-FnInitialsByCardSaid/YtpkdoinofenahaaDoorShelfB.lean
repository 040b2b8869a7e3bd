/- Contracts of Go's library, laid by the kit's shelf tools at this translation: each is one application of a theorem of the kit's library. -/
import Derived.Shelf.Strings.Builder1
import Derived.Shelf.Strings.Builder2
import Derived.Shelf.Small.Utf8
import Derived.Shelf.Strings.BuilderF
import Derived.Shelf.Strings.BuilderK
import Derived.Shelf.Strings.BuilderRune
import Derived.Shelf.Utf8.AppendRunePlain
import Derived.Shelf.Utf8.RuneCount
import Derived.Shelf.LaysM
import Derived.Shelf.Bytes.Len
import Derived.Shelf.Bytes.TryGrow
import Derived.Shelf.Bytes.GrowSliceCatch
import Derived.Shelf.Bytes.GrowSlice
import Derived.Shelf.Bytes.GrowRow0
import Derived.Shelf.Bytes.GrowRow
import Derived.Shelf.Bytes.GrowNil
import Derived.Shelf.Bytes.Grow
import Derived.Shelf.Bytes.WriteByte
import Derived.Shelf.Bytes.WriteString
import Derived.Shelf.Bytes.String
import Derived.Shelf.Bytes.GrowRow0Kept
import Derived.Shelf.Bytes.GrowRowKept
import Derived.Shelf.Bytes.GrowNilKept
import Derived.Shelf.Bytes.GrowKept
import Derived.Shelf.Bytes.WriteByteKept
import Derived.Shelf.Bytes.WriteStringKept
import Derived.Shelf.Bytes.ResetKept
import Derived.Shelf.Bytes.BufferK
import Derived.Shelf.Bytes.GrowRow0Own
import Derived.Shelf.Bytes.GrowRowOwn
import Derived.Shelf.Bytes.GrowNilOwn
import Derived.Shelf.Bytes.GrowOwn
import Derived.Ground.MzProg
import Derived.Shelf.Wr.WriteRuneAscii
import Derived.Shelf.Wr.WriteRune
import Derived.Shelf.Unicode.Latin
import Derived.Shelf.Unicode.Props
import Derived.Shelf.Unicode.Decode
import Derived.Shelf.Strings.RuneCount
import Derived.Shelf.Unicode.DecodeSlow
import Derived.Shelf.Unicode.DecodeAny
import Derived.Shelf.Unicode.Is16White
import Derived.Shelf.Unicode.IsSpaceAny
import Derived.Shelf.Unicode.CaseLookup
import Derived.Shelf.Unicode.CaseConvert
import Derived.Shelf.Unicode.CaseTo
import Derived.Shelf.Unicode.CaseLaid
import Derived.Shelf.Unicode.Is16Any
import Derived.Shelf.Unicode.Is32Any
import Derived.Shelf.Unicode.ExclAny
import Derived.Shelf.Unicode.PredsAny
import Derived.Test.YtpkdoinofenahaaDoorProg
namespace Go.Proofs
open Go.Shelf
def Tryd.laysM178_ren : Go.Shelf.Ren := ⟨fun | 178 => 79 | 251 => 100 | 252 => 101 | 181 => 114 | 184 => 115 | 290 => 116 | 324 => 124 | n => n, fun | 130 => 80 | 9 => 9 | 3 => 3 | 75 => 58 | 0 => 0 | 93 => 69 | 91 => 67 | 131 => 81 | 4 => 4 | 37 => 44 | 20 => 20 | 80 => 61 | 5 => 5 | n => n, fun | 14 => 7 | n => n⟩
theorem Tryd.laysM178 : Go.Proofs.LaysM.n178 Tryd.prog Tryd.laysM178_ren := {
  mixed := by kernel_rfl
  f178 := Tryd.func79.trans (congrArg some (by kernel_rfl))
  f181 := Tryd.func114.trans (congrArg some (by kernel_rfl))
  f184 := Tryd.func115.trans (congrArg some (by kernel_rfl))
  f251 := Tryd.func100.trans (congrArg some (by kernel_rfl))
  f252 := Tryd.func101.trans (congrArg some (by kernel_rfl))
  f290 := Tryd.func116.trans (congrArg some (by kernel_rfl))
  f324 := Tryd.func124.trans (congrArg some (by kernel_rfl))
  t0 := Tryd.underlying0
  a0 := Tryd.isAgg0
  z0 := Tryd.sizeOf0
  v0 := Tryd.zeroValue0
  t3 := Tryd.underlying3
  a3 := Tryd.isAgg3
  z3 := Tryd.sizeOf3
  v3 := Tryd.zeroValue3
  t4 := Tryd.underlying4
  a4 := Tryd.isAgg4
  z4 := Tryd.sizeOf4
  v4 := Tryd.zeroValue4
  t9 := Tryd.underlying9
  a9 := Tryd.isAgg9
  z9 := Tryd.sizeOf9
  v9 := Tryd.zeroValue9
  t20 := Tryd.underlying20
  a20 := Tryd.isAgg20
  z20 := Tryd.sizeOf20
  v20 := Tryd.zeroValue20
  t37 := Tryd.underlying44
  a37 := Tryd.isAgg44
  z37 := Tryd.sizeOf44
  v37 := Tryd.zeroValue44
  t75 := Tryd.underlying58
  a75 := Tryd.isAgg58
  z75 := Tryd.sizeOf58
  v75 := Tryd.zeroValue58
  t91 := Tryd.underlying67
  a91 := Tryd.isAgg67
  z91 := Tryd.sizeOf67
  v91 := Tryd.zeroValue67
  t93 := Tryd.underlying69
  a93 := Tryd.isAgg69
  z93 := Tryd.sizeOf69
  v93 := Tryd.zeroValue69
  t130 := Tryd.underlying80
  a130 := Tryd.isAgg80
  z130 := Tryd.sizeOf80
  v130 := Tryd.zeroValue80
  t131 := Tryd.underlying81
  a131 := Tryd.isAgg81
  z131 := Tryd.sizeOf81
  v131 := Tryd.zeroValue81
  g14 := by kernel_rfl
  t5 := Tryd.underlying5
  a5 := Tryd.isAgg5
  z5 := Tryd.sizeOf5
  v5 := Tryd.zeroValue5
  t80 := Tryd.underlying61
  a80 := Tryd.isAgg61
  z80 := Tryd.sizeOf61
  v80 := Tryd.zeroValue61
  i0 := by kernel_rfl
  i3 := by kernel_rfl
  i4 := by kernel_rfl
  i5 := by kernel_rfl
  i9 := by kernel_rfl
  i20 := by kernel_rfl
  i37 := by kernel_rfl
  i75 := by kernel_rfl
  i80 := by kernel_rfl
  i91 := by kernel_rfl
  i93 := by kernel_rfl
  i130 := by kernel_rfl
  i131 := by kernel_rfl
  m14 := by kernel_rfl }
open Go.RowKit in
theorem Tryd.Buffer_WriteString (B b : Nat) (bs : List Value) (s : ByteArray) (w : World) (h : Lib.IsBuffer 69 5 B b bs w) (hBw : B ≤ w.heap.size) (h1 : ∀ v ∈ bs, v.oneCell' = true) (hlim : bs.length + s.size ≤ 140737488355328) :
    Calls Tryd.prog 79 #[.pointer (some ⟨b, 0, none⟩), .string s] w fun e w' => e = .returned (.tuple #[.int .i64 s.size, .nilIface]) ∧ Lib.IsBuffer 69 5 B b (bs ++ Lib.byteCells s.data.toList) w' ∧ Below B w w' := Any.Buffer_WriteString Tryd.laysM178 B b bs s w h hBw h1 hlim
def Tryd.laysM182_ren : Go.Shelf.Ren := ⟨fun | 182 => 81 | n => n, fun | 130 => 80 | 9 => 9 | 4 => 4 | 0 => 0 | 93 => 69 | 37 => 44 | 3 => 3 | 91 => 67 | 5 => 5 | n => n, fun | n => n⟩
theorem Tryd.laysM182 : Go.Proofs.LaysM.n182 Tryd.prog Tryd.laysM182_ren := {
  mixed := by kernel_rfl
  f182 := Tryd.func81.trans (congrArg some (by kernel_rfl))
  t0 := Tryd.underlying0
  a0 := Tryd.isAgg0
  z0 := Tryd.sizeOf0
  v0 := Tryd.zeroValue0
  t3 := Tryd.underlying3
  a3 := Tryd.isAgg3
  z3 := Tryd.sizeOf3
  v3 := Tryd.zeroValue3
  t4 := Tryd.underlying4
  a4 := Tryd.isAgg4
  z4 := Tryd.sizeOf4
  v4 := Tryd.zeroValue4
  t9 := Tryd.underlying9
  a9 := Tryd.isAgg9
  z9 := Tryd.sizeOf9
  v9 := Tryd.zeroValue9
  t37 := Tryd.underlying44
  a37 := Tryd.isAgg44
  z37 := Tryd.sizeOf44
  v37 := Tryd.zeroValue44
  t93 := Tryd.underlying69
  a93 := Tryd.isAgg69
  z93 := Tryd.sizeOf69
  v93 := Tryd.zeroValue69
  t130 := Tryd.underlying80
  a130 := Tryd.isAgg80
  z130 := Tryd.sizeOf80
  v130 := Tryd.zeroValue80
  t5 := Tryd.underlying5
  a5 := Tryd.isAgg5
  z5 := Tryd.sizeOf5
  v5 := Tryd.zeroValue5
  t91 := Tryd.underlying67
  a91 := Tryd.isAgg67
  z91 := Tryd.sizeOf67
  v91 := Tryd.zeroValue67
  i0 := by kernel_rfl
  i3 := by kernel_rfl
  i4 := by kernel_rfl
  i5 := by kernel_rfl
  i9 := by kernel_rfl
  i37 := by kernel_rfl
  i91 := by kernel_rfl
  i93 := by kernel_rfl
  i130 := by kernel_rfl }
open Go.RowKit in
theorem Tryd.Buffer_String (B b : Nat) (l : List UInt8) (w : World) (h : Lib.IsBuffer 69 5 B b (Lib.byteCells l) w) :
    Calls Tryd.prog 81 #[.pointer (some ⟨b, 0, none⟩)] w fun e w' => e = .returned (.string ⟨l.toArray⟩) ∧ ∃ n, w' = w.drewN n := Any.Buffer_String Tryd.laysM182 B b l w h
def Tryd.laysWr5_ren : Go.Shelf.Ren := ⟨fun | 5 => 84 | 7 => 103 | 8 => 100 | 9 => 101 | 10 => 96 | 11 => 114 | 12 => 115 | 13 => 116 | 14 => 110 | 15 => 124 | n => n, fun | 34 => 80 | 21 => 21 | 3 => 3 | 28 => 58 | 35 => 84 | 4 => 4 | 5 => 5 | 0 => 0 | 26 => 69 | 24 => 67 | 37 => 81 | 22 => 44 | 43 => 89 | 20 => 20 | 31 => 61 | 9 => 9 | n => n, fun | 0 => 7 | n => n⟩
theorem Tryd.laysWr5 : Go.Proofs.LaysWr.n5 Tryd.prog Tryd.laysWr5_ren := {
  mixed := by kernel_rfl
  f5 := Tryd.func84.trans (congrArg some (by kernel_rfl))
  f7 := Tryd.func103.trans (congrArg some (by kernel_rfl))
  f8 := Tryd.func100.trans (congrArg some (by kernel_rfl))
  f9 := Tryd.func101.trans (congrArg some (by kernel_rfl))
  f10 := Tryd.func96.trans (congrArg some (by kernel_rfl))
  f11 := Tryd.func114.trans (congrArg some (by kernel_rfl))
  f12 := Tryd.func115.trans (congrArg some (by kernel_rfl))
  f13 := Tryd.func116.trans (congrArg some (by kernel_rfl))
  f14 := Tryd.func110.trans (congrArg some (by kernel_rfl))
  f15 := Tryd.func124.trans (congrArg some (by kernel_rfl))
  t0 := Tryd.underlying0
  a0 := Tryd.isAgg0
  z0 := Tryd.sizeOf0
  v0 := Tryd.zeroValue0
  i0 := by kernel_rfl
  t3 := Tryd.underlying3
  a3 := Tryd.isAgg3
  z3 := Tryd.sizeOf3
  v3 := Tryd.zeroValue3
  i3 := by kernel_rfl
  t4 := Tryd.underlying4
  a4 := Tryd.isAgg4
  z4 := Tryd.sizeOf4
  v4 := Tryd.zeroValue4
  i4 := by kernel_rfl
  t5 := Tryd.underlying5
  a5 := Tryd.isAgg5
  z5 := Tryd.sizeOf5
  v5 := Tryd.zeroValue5
  i5 := by kernel_rfl
  t9 := Tryd.underlying9
  a9 := Tryd.isAgg9
  z9 := Tryd.sizeOf9
  v9 := Tryd.zeroValue9
  i9 := by kernel_rfl
  t20 := Tryd.underlying20
  a20 := Tryd.isAgg20
  z20 := Tryd.sizeOf20
  v20 := Tryd.zeroValue20
  i20 := by kernel_rfl
  t21 := Tryd.underlying21
  a21 := Tryd.isAgg21
  z21 := Tryd.sizeOf21
  v21 := Tryd.zeroValue21
  i21 := by kernel_rfl
  t22 := Tryd.underlying44
  a22 := Tryd.isAgg44
  z22 := Tryd.sizeOf44
  v22 := Tryd.zeroValue44
  i22 := by kernel_rfl
  t24 := Tryd.underlying67
  a24 := Tryd.isAgg67
  z24 := Tryd.sizeOf67
  v24 := Tryd.zeroValue67
  i24 := by kernel_rfl
  t26 := Tryd.underlying69
  a26 := Tryd.isAgg69
  z26 := Tryd.sizeOf69
  v26 := Tryd.zeroValue69
  i26 := by kernel_rfl
  t28 := Tryd.underlying58
  a28 := Tryd.isAgg58
  z28 := Tryd.sizeOf58
  v28 := Tryd.zeroValue58
  i28 := by kernel_rfl
  t31 := Tryd.underlying61
  a31 := Tryd.isAgg61
  z31 := Tryd.sizeOf61
  v31 := Tryd.zeroValue61
  i31 := by kernel_rfl
  t34 := Tryd.underlying80
  a34 := Tryd.isAgg80
  z34 := Tryd.sizeOf80
  v34 := Tryd.zeroValue80
  i34 := by kernel_rfl
  t35 := Tryd.underlying84
  a35 := Tryd.isAgg84
  z35 := Tryd.sizeOf84
  v35 := Tryd.zeroValue84
  i35 := by kernel_rfl
  t37 := Tryd.underlying81
  a37 := Tryd.isAgg81
  z37 := Tryd.sizeOf81
  v37 := Tryd.zeroValue81
  i37 := by kernel_rfl
  t43 := Tryd.underlying89
  a43 := Tryd.isAgg89
  z43 := Tryd.sizeOf89
  v43 := Tryd.zeroValue89
  i43 := by kernel_rfl
  g0 := by kernel_rfl
  m0 := by kernel_rfl }
open Go.RowKit in
theorem Tryd.Buffer_WriteRune_ascii (B b : Nat) (bs : List Value) (r : Int) (h0 : 0 ≤ r) (h128 : r < 128) (w : World) (h : Lib.IsBuffer 69 5 B b bs w) (hBw : B ≤ w.heap.size) (h1 : ∀ v ∈ bs, v.oneCell' = true) (hlim : bs.length + 1 ≤ 140737488355328) :
    Calls Tryd.prog 84 #[.pointer (some ⟨b, 0, none⟩), .int .i32 r] w fun e w' => e = .returned (.tuple #[.int .i64 1, .nilIface]) ∧ Lib.IsBuffer 69 5 B b (bs ++ [.int .u8 r]) w' ∧ Below B w w' ∧ Lib.OthersKept 5 (some b) w w' := Any.Buffer_WriteRune_ascii Tryd.laysWr5 B b bs r h0 h128 w h hBw h1 hlim
end Go.Proofs
