/- Contracts of Go's library, laid by the kit's shelf tools at this translation: each is one application of a theorem of the kit's library. -/
import Derived.Lib.AtoiTie
import Derived.Shelf.Strings.Builder1
import Derived.Shelf.Strings.Builder2
import Derived.Shelf.Strings.OnBuilder
import Derived.Shelf.Strings.BuilderF
import Derived.Shelf.Strings.BuilderK
import Derived.Shelf.Strings.Builder2Cap
import Derived.Shelf.Strconv.Atoi
import Derived.Shelf.Strconv.Itoa0
import Derived.Shelf.Strconv.Itoa1
import Derived.Shelf.LaysM
import Derived.Shelf.Strconv.Itoa2
import Derived.Shelf.Strconv.Itoa3
import Derived.Shelf.Strconv.Itoa4
import Derived.Shelf.Strconv.AtoiErrFast
import Derived.Shelf.Strconv.ParseIntEmpty
import Derived.Shelf.Strconv.AtoiFail
import Derived.Shelf.Strconv.Clone
import Derived.Shelf.Strconv.SyntaxError
import Derived.Shelf.LaysC
import Derived.Shelf.Strconv.ToError
import Derived.Shelf.Strconv.Lower
import Derived.Shelf.Strconv.ParseUint10
import Derived.Shelf.Strconv.ParseUint10Empty
import Derived.Shelf.Strconv.ParseUint10Any
import Derived.Shelf.Strconv.ParseInt10
import Derived.Shelf.Strconv.AtoiLong
import Derived.Shelf.Strconv.AtoiInnerAll
import Derived.Shelf.Strconv.RangeError
import Derived.Shelf.Strconv.ToErrorRange
import Derived.Shelf.Strconv.AtoiAll
import Derived.Shelf.Strconv.ErrVarAll
import Derived.Shelf.Strconv.ParseUintEmpty
import Derived.Shelf.Strconv.ParseUint10b64
import Derived.Shelf.Strconv.ParseUint10b32
import Derived.Shelf.Strconv.ParseUint10b16
import Derived.Shelf.Strconv.ParseUint10b8
import Derived.Shelf.Strconv.ParseUint10At
import Derived.Shelf.Strconv.ParseInt10At64
import Derived.Shelf.Strconv.ParseInt10At32
import Derived.Shelf.Strconv.ParseInt10At16
import Derived.Shelf.Strconv.ParseInt10At8
import Derived.Shelf.Strconv.ParseInt10All
import Derived.Shelf.Strconv.ParseIntPublic10
import Derived.Test.YtahfjdggomndoaaDoorProg
namespace Go.Proofs
open Go.Shelf
def Tryd.laysC172_ren : Go.Shelf.Ren := ⟨fun | 172 => 30 | 244 => 43 | 245 => 24 | 247 => 23 | 279 => 32 | 280 => 33 | 281 => 34 | 282 => 35 | 287 => 31 | 316 => 46 | 171 => 41 | 205 => 47 | 321 => 44 | 322 => 45 | 243 => 50 | 246 => 20 | 283 => 25 | 284 => 26 | 285 => 27 | 286 => 28 | 129 => 37 | 317 => 36 | 318 => 38 | 319 => 39 | 320 => 40 | 337 => 48 | 338 => 49 | n => n, fun | 9 => 9 | 3 => 3 | 75 => 35 | 76 => 48 | 4 => 4 | 5 => 5 | 167 => 50 | 37 => 44 | 0 => 0 | 85 => 36 | 2 => 2 | 168 => 54 | 53 => 41 | 175 => 51 | 46 => 53 | 210 => 69 | 127 => 77 | 145 => 80 | 143 => 78 | 21 => 21 | 171 => 40 | 173 => 45 | 212 => 59 | 51 => 60 | 20 => 20 | 213 => 61 | 232 => 81 | 233 => 82 | 80 => 76 | n => n, fun | 15 => 1 | 16 => 2 | 17 => 0 | 18 => 3 | 19 => 4 | n => n⟩
theorem Tryd.laysC172 : Go.Proofs.LaysC.n172 Tryd.prog Tryd.laysC172_ren := {
  mixed := by kernel_rfl
  f129 := Tryd.func37.trans (congrArg some (by kernel_rfl))
  f171 := Tryd.func41.trans (congrArg some (by kernel_rfl))
  f172 := Tryd.func30.trans (congrArg some (by kernel_rfl))
  f205 := Tryd.func47.trans (congrArg some (by kernel_rfl))
  f243 := Tryd.func50.trans (congrArg some (by kernel_rfl))
  f244 := Tryd.func43.trans (congrArg some (by kernel_rfl))
  f245 := Tryd.func24.trans (congrArg some (by kernel_rfl))
  f246 := Tryd.func20.trans (congrArg some (by kernel_rfl))
  f247 := Tryd.func23.trans (congrArg some (by kernel_rfl))
  f279 := Tryd.func32.trans (congrArg some (by kernel_rfl))
  f280 := Tryd.func33.trans (congrArg some (by kernel_rfl))
  f281 := Tryd.func34.trans (congrArg some (by kernel_rfl))
  f282 := Tryd.func35.trans (congrArg some (by kernel_rfl))
  f283 := Tryd.func25.trans (congrArg some (by kernel_rfl))
  f284 := Tryd.func26.trans (congrArg some (by kernel_rfl))
  f285 := Tryd.func27.trans (congrArg some (by kernel_rfl))
  f286 := Tryd.func28.trans (congrArg some (by kernel_rfl))
  f287 := Tryd.func31.trans (congrArg some (by kernel_rfl))
  f316 := Tryd.func46.trans (congrArg some (by kernel_rfl))
  f317 := Tryd.func36.trans (congrArg some (by kernel_rfl))
  f318 := Tryd.func38.trans (congrArg some (by kernel_rfl))
  f319 := Tryd.func39.trans (congrArg some (by kernel_rfl))
  f320 := Tryd.func40.trans (congrArg some (by kernel_rfl))
  f321 := Tryd.func44.trans (congrArg some (by kernel_rfl))
  f322 := Tryd.func45.trans (congrArg some (by kernel_rfl))
  f337 := Tryd.func48.trans (congrArg some (by kernel_rfl))
  f338 := Tryd.func49.trans (congrArg some (by kernel_rfl))
  t0 := Tryd.underlying0
  a0 := Tryd.isAgg0
  z0 := Tryd.sizeOf0
  v0 := Tryd.zeroValue0
  t2 := Tryd.underlying2
  a2 := Tryd.isAgg2
  z2 := Tryd.sizeOf2
  v2 := Tryd.zeroValue2
  t3 := Tryd.underlying3
  a3 := Tryd.isAgg3
  z3 := Tryd.sizeOf3
  v3 := Tryd.zeroValue3
  t4 := Tryd.underlying4
  a4 := Tryd.isAgg4
  z4 := Tryd.sizeOf4
  v4 := Tryd.zeroValue4
  t5 := Tryd.underlying5
  a5 := Tryd.isAgg5
  z5 := Tryd.sizeOf5
  v5 := Tryd.zeroValue5
  t9 := Tryd.underlying9
  a9 := Tryd.isAgg9
  z9 := Tryd.sizeOf9
  v9 := Tryd.zeroValue9
  t20 := Tryd.underlying20
  a20 := Tryd.isAgg20
  z20 := Tryd.sizeOf20
  v20 := Tryd.zeroValue20
  t21 := Tryd.underlying21
  a21 := Tryd.isAgg21
  z21 := Tryd.sizeOf21
  v21 := Tryd.zeroValue21
  t37 := Tryd.underlying44
  a37 := Tryd.isAgg44
  z37 := Tryd.sizeOf44
  v37 := Tryd.zeroValue44
  t46 := Tryd.underlying53
  a46 := Tryd.isAgg53
  z46 := Tryd.sizeOf53
  v46 := Tryd.zeroValue53
  t51 := Tryd.underlying60
  a51 := Tryd.isAgg60
  z51 := Tryd.sizeOf60
  v51 := Tryd.zeroValue60
  t53 := Tryd.underlying41
  a53 := Tryd.isAgg41
  z53 := Tryd.sizeOf41
  v53 := Tryd.zeroValue41
  t75 := Tryd.underlying35
  a75 := Tryd.isAgg35
  z75 := Tryd.sizeOf35
  v75 := Tryd.zeroValue35
  t76 := Tryd.underlying48
  a76 := Tryd.isAgg48
  z76 := Tryd.sizeOf48
  v76 := Tryd.zeroValue48
  t85 := Tryd.underlying36
  a85 := Tryd.isAgg36
  z85 := Tryd.sizeOf36
  v85 := Tryd.zeroValue36
  t127 := Tryd.underlying77
  a127 := Tryd.isAgg77
  z127 := Tryd.sizeOf77
  v127 := Tryd.zeroValue77
  t143 := Tryd.underlying78
  a143 := Tryd.isAgg78
  z143 := Tryd.sizeOf78
  v143 := Tryd.zeroValue78
  t145 := Tryd.underlying80
  a145 := Tryd.isAgg80
  z145 := Tryd.sizeOf80
  v145 := Tryd.zeroValue80
  t167 := Tryd.underlying50
  a167 := Tryd.isAgg50
  z167 := Tryd.sizeOf50
  v167 := Tryd.zeroValue50
  t168 := Tryd.underlying54
  a168 := Tryd.isAgg54
  z168 := Tryd.sizeOf54
  v168 := Tryd.zeroValue54
  t171 := Tryd.underlying40
  a171 := Tryd.isAgg40
  z171 := Tryd.sizeOf40
  v171 := Tryd.zeroValue40
  t173 := Tryd.underlying45
  a173 := Tryd.isAgg45
  z173 := Tryd.sizeOf45
  v173 := Tryd.zeroValue45
  t175 := Tryd.underlying51
  a175 := Tryd.isAgg51
  z175 := Tryd.sizeOf51
  v175 := Tryd.zeroValue51
  t210 := Tryd.underlying69
  a210 := Tryd.isAgg69
  z210 := Tryd.sizeOf69
  v210 := Tryd.zeroValue69
  t212 := Tryd.underlying59
  a212 := Tryd.isAgg59
  z212 := Tryd.sizeOf59
  v212 := Tryd.zeroValue59
  t213 := Tryd.underlying61
  a213 := Tryd.isAgg61
  z213 := Tryd.sizeOf61
  t232 := Tryd.underlying81
  a232 := Tryd.isAgg81
  z232 := Tryd.sizeOf81
  v232 := Tryd.zeroValue81
  t233 := Tryd.underlying82
  a233 := Tryd.isAgg82
  z233 := Tryd.sizeOf82
  v233 := Tryd.zeroValue82
  g15 := by kernel_rfl
  g16 := by kernel_rfl
  g17 := by kernel_rfl
  g18 := by kernel_rfl
  g19 := by kernel_rfl
  t80 := Tryd.underlying76
  a80 := Tryd.isAgg76
  z80 := Tryd.sizeOf76
  v80 := Tryd.zeroValue76
  i0 := by kernel_rfl
  i2 := by kernel_rfl
  i3 := by kernel_rfl
  i4 := by kernel_rfl
  i5 := by kernel_rfl
  i9 := by kernel_rfl
  i20 := by kernel_rfl
  i21 := by kernel_rfl
  i37 := by kernel_rfl
  i46 := by kernel_rfl
  i51 := by kernel_rfl
  i53 := by kernel_rfl
  i75 := by kernel_rfl
  i76 := by kernel_rfl
  i80 := by kernel_rfl
  i85 := by kernel_rfl
  i127 := by kernel_rfl
  i143 := by kernel_rfl
  i145 := by kernel_rfl
  i167 := by kernel_rfl
  i168 := by kernel_rfl
  i171 := by kernel_rfl
  i173 := by kernel_rfl
  i175 := by kernel_rfl
  i210 := by kernel_rfl
  i212 := by kernel_rfl
  i232 := by kernel_rfl
  i233 := by kernel_rfl
  m15 := by kernel_rfl
  m16 := by kernel_rfl
  m17 := by kernel_rfl
  m18 := by kernel_rfl
  m19 := by kernel_rfl
  c0 := by kernel_rfl
  c2 := by kernel_rfl
  c3 := by kernel_rfl
  c4 := by kernel_rfl
  c5 := by kernel_rfl
  c9 := by kernel_rfl
  c20 := by kernel_rfl
  c21 := by kernel_rfl
  c37 := by kernel_rfl
  c46 := by kernel_rfl
  c51 := by kernel_rfl
  c53 := by kernel_rfl
  c75 := by kernel_rfl
  c76 := by kernel_rfl
  c80 := by kernel_rfl
  c85 := by kernel_rfl
  c127 := by kernel_rfl
  c143 := by kernel_rfl
  c145 := by kernel_rfl
  c167 := by kernel_rfl
  c168 := by kernel_rfl
  c171 := by kernel_rfl
  c173 := by kernel_rfl
  c175 := by kernel_rfl
  c210 := by kernel_rfl
  c212 := by kernel_rfl
  c213 := by kernel_rfl
  c232 := by kernel_rfl
  c233 := by kernel_rfl }
open Go.RowKit in
theorem Tryd.strconv_Atoi_ok (s : ByteArray) (hmax : s.size ≤ 9223372036854775806) (v : Int) (h : Lib.atoiAll s.data.toList = .ok v) (w : World) :
    Calls Tryd.prog 30 #[.string s] w fun e w' => e = .returned (.tuple #[.int .i64 v, .nilIface]) ∧ (w' = w ∨ ∃ t, w' = Lib.bytesWorld w 5 t) := Any.strconv_Atoi_ok Tryd.laysC172 s hmax v h w
open Go.RowKit in
theorem Tryd.strconv_Atoi_syntax_var (s : ByteArray) (hlim : s.size ≤ 281474976710656) (h : Lib.atoiAll s.data.toList = Lib.NumEnd.ofOption none) (tp : TypeId) (p : Value) (w : World) (hvar : w.var? Tryd.prog "strconv.ErrSyntax" = some #[.iface tp p]) :
    Calls Tryd.prog 30 #[.string s] w fun e w' => ∃ N, e = .returned (.tuple #[.int .i64 0, .iface 54 (.pointer (some ⟨N, 0, none⟩))]) ∧ w.heap.size ≤ N ∧ w'.heap[N]? = some (.cells #[.string ⟨#[65, 116, 111, 105]⟩, .string s, .iface tp p] 69 (0, 0)) ∧ Below w.heap.size w w' := Any.strconv_Atoi_syntax_var Tryd.laysC172 s hlim h tp p w hvar
def Tryd.laysC174_ren : Go.Shelf.Ren := ⟨fun | 174 => 17 | 247 => 23 | 245 => 24 | 287 => 31 | 279 => 32 | 280 => 33 | 281 => 34 | 282 => 35 | 321 => 44 | 322 => 45 | 316 => 46 | 171 => 41 | 205 => 47 | 243 => 50 | 246 => 20 | 283 => 25 | 284 => 26 | 285 => 27 | 286 => 28 | 129 => 37 | 317 => 36 | 318 => 38 | 319 => 39 | 320 => 40 | 337 => 48 | 338 => 49 | n => n, fun | 9 => 9 | 3 => 3 | 2 => 2 | 75 => 35 | 85 => 36 | 4 => 4 | 167 => 50 | 5 => 5 | 53 => 41 | 175 => 51 | 46 => 53 | 168 => 54 | 37 => 44 | 0 => 0 | 210 => 69 | 21 => 21 | 127 => 77 | 145 => 80 | 143 => 78 | 171 => 40 | 173 => 45 | 212 => 59 | 51 => 60 | 20 => 20 | 213 => 61 | 232 => 81 | 233 => 82 | 80 => 76 | n => n, fun | 15 => 1 | 16 => 2 | 17 => 0 | 18 => 3 | 19 => 4 | n => n⟩
theorem Tryd.laysC174 : Go.Proofs.LaysC.n174 Tryd.prog Tryd.laysC174_ren := {
  mixed := by kernel_rfl
  f129 := Tryd.func37.trans (congrArg some (by kernel_rfl))
  f171 := Tryd.func41.trans (congrArg some (by kernel_rfl))
  f174 := Tryd.func17.trans (congrArg some (by kernel_rfl))
  f205 := Tryd.func47.trans (congrArg some (by kernel_rfl))
  f243 := Tryd.func50.trans (congrArg some (by kernel_rfl))
  f245 := Tryd.func24.trans (congrArg some (by kernel_rfl))
  f246 := Tryd.func20.trans (congrArg some (by kernel_rfl))
  f247 := Tryd.func23.trans (congrArg some (by kernel_rfl))
  f279 := Tryd.func32.trans (congrArg some (by kernel_rfl))
  f280 := Tryd.func33.trans (congrArg some (by kernel_rfl))
  f281 := Tryd.func34.trans (congrArg some (by kernel_rfl))
  f282 := Tryd.func35.trans (congrArg some (by kernel_rfl))
  f283 := Tryd.func25.trans (congrArg some (by kernel_rfl))
  f284 := Tryd.func26.trans (congrArg some (by kernel_rfl))
  f285 := Tryd.func27.trans (congrArg some (by kernel_rfl))
  f286 := Tryd.func28.trans (congrArg some (by kernel_rfl))
  f287 := Tryd.func31.trans (congrArg some (by kernel_rfl))
  f316 := Tryd.func46.trans (congrArg some (by kernel_rfl))
  f317 := Tryd.func36.trans (congrArg some (by kernel_rfl))
  f318 := Tryd.func38.trans (congrArg some (by kernel_rfl))
  f319 := Tryd.func39.trans (congrArg some (by kernel_rfl))
  f320 := Tryd.func40.trans (congrArg some (by kernel_rfl))
  f321 := Tryd.func44.trans (congrArg some (by kernel_rfl))
  f322 := Tryd.func45.trans (congrArg some (by kernel_rfl))
  f337 := Tryd.func48.trans (congrArg some (by kernel_rfl))
  f338 := Tryd.func49.trans (congrArg some (by kernel_rfl))
  t0 := Tryd.underlying0
  a0 := Tryd.isAgg0
  z0 := Tryd.sizeOf0
  v0 := Tryd.zeroValue0
  t2 := Tryd.underlying2
  a2 := Tryd.isAgg2
  z2 := Tryd.sizeOf2
  v2 := Tryd.zeroValue2
  t3 := Tryd.underlying3
  a3 := Tryd.isAgg3
  z3 := Tryd.sizeOf3
  v3 := Tryd.zeroValue3
  t4 := Tryd.underlying4
  a4 := Tryd.isAgg4
  z4 := Tryd.sizeOf4
  v4 := Tryd.zeroValue4
  t5 := Tryd.underlying5
  a5 := Tryd.isAgg5
  z5 := Tryd.sizeOf5
  v5 := Tryd.zeroValue5
  t9 := Tryd.underlying9
  a9 := Tryd.isAgg9
  z9 := Tryd.sizeOf9
  v9 := Tryd.zeroValue9
  t20 := Tryd.underlying20
  a20 := Tryd.isAgg20
  z20 := Tryd.sizeOf20
  v20 := Tryd.zeroValue20
  t21 := Tryd.underlying21
  a21 := Tryd.isAgg21
  z21 := Tryd.sizeOf21
  v21 := Tryd.zeroValue21
  t37 := Tryd.underlying44
  a37 := Tryd.isAgg44
  z37 := Tryd.sizeOf44
  v37 := Tryd.zeroValue44
  t46 := Tryd.underlying53
  a46 := Tryd.isAgg53
  z46 := Tryd.sizeOf53
  v46 := Tryd.zeroValue53
  t51 := Tryd.underlying60
  a51 := Tryd.isAgg60
  z51 := Tryd.sizeOf60
  v51 := Tryd.zeroValue60
  t53 := Tryd.underlying41
  a53 := Tryd.isAgg41
  z53 := Tryd.sizeOf41
  v53 := Tryd.zeroValue41
  t75 := Tryd.underlying35
  a75 := Tryd.isAgg35
  z75 := Tryd.sizeOf35
  v75 := Tryd.zeroValue35
  t85 := Tryd.underlying36
  a85 := Tryd.isAgg36
  z85 := Tryd.sizeOf36
  v85 := Tryd.zeroValue36
  t127 := Tryd.underlying77
  a127 := Tryd.isAgg77
  z127 := Tryd.sizeOf77
  v127 := Tryd.zeroValue77
  t143 := Tryd.underlying78
  a143 := Tryd.isAgg78
  z143 := Tryd.sizeOf78
  v143 := Tryd.zeroValue78
  t145 := Tryd.underlying80
  a145 := Tryd.isAgg80
  z145 := Tryd.sizeOf80
  v145 := Tryd.zeroValue80
  t167 := Tryd.underlying50
  a167 := Tryd.isAgg50
  z167 := Tryd.sizeOf50
  v167 := Tryd.zeroValue50
  t168 := Tryd.underlying54
  a168 := Tryd.isAgg54
  z168 := Tryd.sizeOf54
  v168 := Tryd.zeroValue54
  t171 := Tryd.underlying40
  a171 := Tryd.isAgg40
  z171 := Tryd.sizeOf40
  v171 := Tryd.zeroValue40
  t173 := Tryd.underlying45
  a173 := Tryd.isAgg45
  z173 := Tryd.sizeOf45
  v173 := Tryd.zeroValue45
  t175 := Tryd.underlying51
  a175 := Tryd.isAgg51
  z175 := Tryd.sizeOf51
  v175 := Tryd.zeroValue51
  t210 := Tryd.underlying69
  a210 := Tryd.isAgg69
  z210 := Tryd.sizeOf69
  v210 := Tryd.zeroValue69
  t212 := Tryd.underlying59
  a212 := Tryd.isAgg59
  z212 := Tryd.sizeOf59
  v212 := Tryd.zeroValue59
  t213 := Tryd.underlying61
  a213 := Tryd.isAgg61
  z213 := Tryd.sizeOf61
  t232 := Tryd.underlying81
  a232 := Tryd.isAgg81
  z232 := Tryd.sizeOf81
  v232 := Tryd.zeroValue81
  t233 := Tryd.underlying82
  a233 := Tryd.isAgg82
  z233 := Tryd.sizeOf82
  v233 := Tryd.zeroValue82
  g15 := by kernel_rfl
  g16 := by kernel_rfl
  g17 := by kernel_rfl
  g18 := by kernel_rfl
  g19 := by kernel_rfl
  t80 := Tryd.underlying76
  a80 := Tryd.isAgg76
  z80 := Tryd.sizeOf76
  v80 := Tryd.zeroValue76
  i0 := by kernel_rfl
  i2 := by kernel_rfl
  i3 := by kernel_rfl
  i4 := by kernel_rfl
  i5 := by kernel_rfl
  i9 := by kernel_rfl
  i20 := by kernel_rfl
  i21 := by kernel_rfl
  i37 := by kernel_rfl
  i46 := by kernel_rfl
  i51 := by kernel_rfl
  i53 := by kernel_rfl
  i75 := by kernel_rfl
  i80 := by kernel_rfl
  i85 := by kernel_rfl
  i127 := by kernel_rfl
  i143 := by kernel_rfl
  i145 := by kernel_rfl
  i167 := by kernel_rfl
  i168 := by kernel_rfl
  i171 := by kernel_rfl
  i173 := by kernel_rfl
  i175 := by kernel_rfl
  i210 := by kernel_rfl
  i212 := by kernel_rfl
  i232 := by kernel_rfl
  i233 := by kernel_rfl
  m15 := by kernel_rfl
  m16 := by kernel_rfl
  m17 := by kernel_rfl
  m18 := by kernel_rfl
  m19 := by kernel_rfl
  c0 := by kernel_rfl
  c2 := by kernel_rfl
  c3 := by kernel_rfl
  c4 := by kernel_rfl
  c5 := by kernel_rfl
  c9 := by kernel_rfl
  c20 := by kernel_rfl
  c21 := by kernel_rfl
  c37 := by kernel_rfl
  c46 := by kernel_rfl
  c51 := by kernel_rfl
  c53 := by kernel_rfl
  c75 := by kernel_rfl
  c80 := by kernel_rfl
  c85 := by kernel_rfl
  c127 := by kernel_rfl
  c143 := by kernel_rfl
  c145 := by kernel_rfl
  c167 := by kernel_rfl
  c168 := by kernel_rfl
  c171 := by kernel_rfl
  c173 := by kernel_rfl
  c175 := by kernel_rfl
  c210 := by kernel_rfl
  c212 := by kernel_rfl
  c213 := by kernel_rfl
  c232 := by kernel_rfl
  c233 := by kernel_rfl }
open Go.RowKit in
theorem Tryd.strconv_ParseInt_10_at64_ok (s : ByteArray) (hmax : s.size ≤ 9223372036854775806) (v : Int) (h : Lib.parseIntB 64 s.data.toList = .ok v) (w : World) :
    Calls Tryd.prog 17 #[.string s, .int .i64 10, .int .i64 64] w fun e w' => e = .returned (.tuple #[.int .i64 v, .nilIface]) ∧ (w' = w ∨ ∃ t, w' = Lib.bytesWorld w 5 t) := Any.strconv_ParseInt_10_at64_ok Tryd.laysC174 s hmax v h w
end Go.Proofs
