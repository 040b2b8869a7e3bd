/-
  NARROWER THAN 'FOR EVERY INPUT', by the rows' own cells (each row's printed sentence says how): FnScrub: laid · FnJustified: laid · FnFirst: laid · FnSwapCase: laid · FnWrapCustom: laid · FnWrapLines: laid · FnInitialsBy: laid · FnSwapAll: laid · FnCamelLow: laid · FnTitle: laid.
  DERIVED. THE GIVEN ROWS OF THIS SEAT. 10 by the template 'for every input the law returns true; each argument reads behind the call as it read before'; 0 by the template 'total and deterministic' (their statements: YtpkdoinofenahaaDoorTotals.lean).
  GIVEN WITH THE SEED: the statements are not yours to turn. If you find one false, say at which input.
  Laid BY PROGRAM, IN A SANDBOX (cutbox-rows.mjs): the forced cells as the released guide's own fill.sh prints them over the translation 0e5d4189b74ceec4… (all of the seat's roots in one cut). By AI agents, Wed Nov 11 2026. No macro, syntax, notation, axiom, sorry.
-/
import Derived.Test.YtpkdoinofenahaaDoorChecked
import GoSem.PinnedTables
import GoSem.Claim
import GoSem.ClaimJoined
import GoSem.ClaimMapViews
import Derived.JoinedTies
import Derived.KernelRfl
namespace Go.Proofs.YtpkdoinofenahaaDoor
/- THE CELL 'sum', in the pinned program and in every row, IS THE sha256 OF THE DUMP (.gsa) THAT YtpkdoinofenahaaDoorProg.lean LOADS. Nothing in Lean hashes anything: it is a label: what it is worth is what the hold of that sum in a sandbox is worth. -/
noncomputable def Tryd.pinned : Pinned := { name := "ytpkdoinofenahaadoor", sum := "0e5d4189b74ceec423cf5494ef5aba2ff886b095c90d06ad5171acd4501907f8", checked := Tryd.checked }
namespace Rows
def none {H : Type} : Left H := { results := [], args := [] }

/- WHAT THE LISTED PACKAGE-LEVEL VARIABLES READ AS WHEN THE CALL BEGINS. Each datum BY PROGRAM (the guide's laid-datum.mjs) off the statement by which the dump's own 'gosem.cut.vars' lays the variable. In a bare row this is a premise. The card (YtpkdoinofenahaaDoorCards.lean) ties it to the program's text. -/
def laid_unicode_utf8_acceptRanges {H : Type} : DataW H := .agg [.agg [.lit (.int .u8 128), .lit (.int .u8 191)], .agg [.lit (.int .u8 160), .lit (.int .u8 191)], .agg [.lit (.int .u8 128), .lit (.int .u8 159)], .agg [.lit (.int .u8 144), .lit (.int .u8 191)], .agg [.lit (.int .u8 128), .lit (.int .u8 143)], .agg [.lit (.int .u8 0), .lit (.int .u8 0)], .agg [.lit (.int .u8 0), .lit (.int .u8 0)], .agg [.lit (.int .u8 0), .lit (.int .u8 0)], .agg [.lit (.int .u8 0), .lit (.int .u8 0)], .agg [.lit (.int .u8 0), .lit (.int .u8 0)], .agg [.lit (.int .u8 0), .lit (.int .u8 0)], .agg [.lit (.int .u8 0), .lit (.int .u8 0)], .agg [.lit (.int .u8 0), .lit (.int .u8 0)], .agg [.lit (.int .u8 0), .lit (.int .u8 0)], .agg [.lit (.int .u8 0), .lit (.int .u8 0)], .agg [.lit (.int .u8 0), .lit (.int .u8 0)]]
/-- One of Go's own tables, pinned by name: the form's constant. -/
def laid_unicode_utf8_first : DataW Unit := Go.Pinned.utf8First
/-- One of Go's own tables, pinned by name: the form's constant. -/
def laid_unicode_CaseRanges : DataW Unit := Go.Pinned.caseRanges
def laid_unicode_Title {H : Type} : DataW H := .ptr (.agg [.slice [.agg [.lit (.int .u16 453), .lit (.int .u16 459), .lit (.int .u16 3)], .agg [.lit (.int .u16 498), .lit (.int .u16 8072), .lit (.int .u16 7574)], .agg [.lit (.int .u16 8073), .lit (.int .u16 8079), .lit (.int .u16 1)], .agg [.lit (.int .u16 8088), .lit (.int .u16 8095), .lit (.int .u16 1)], .agg [.lit (.int .u16 8104), .lit (.int .u16 8111), .lit (.int .u16 1)], .agg [.lit (.int .u16 8124), .lit (.int .u16 8140), .lit (.int .u16 16)], .agg [.lit (.int .u16 8188), .lit (.int .u16 8188), .lit (.int .u16 1)]] [], .nil, .lit (.int .i64 0)])
def laid_unicode_White_Space {H : Type} : DataW H := .ptr (.agg [.slice [.agg [.lit (.int .u16 9), .lit (.int .u16 13), .lit (.int .u16 1)], .agg [.lit (.int .u16 32), .lit (.int .u16 133), .lit (.int .u16 101)], .agg [.lit (.int .u16 160), .lit (.int .u16 5760), .lit (.int .u16 5600)], .agg [.lit (.int .u16 8192), .lit (.int .u16 8202), .lit (.int .u16 1)], .agg [.lit (.int .u16 8232), .lit (.int .u16 8233), .lit (.int .u16 1)], .agg [.lit (.int .u16 8239), .lit (.int .u16 8287), .lit (.int .u16 48)], .agg [.lit (.int .u16 12288), .lit (.int .u16 12288), .lit (.int .u16 1)]] [], .nil, .lit (.int .i64 2)])
def laid_unicode_properties {H : Type} : DataW H := .agg [.lit (.int .u8 1), .lit (.int .u8 1), .lit (.int .u8 1), .lit (.int .u8 1), .lit (.int .u8 1), .lit (.int .u8 1), .lit (.int .u8 1), .lit (.int .u8 1), .lit (.int .u8 1), .lit (.int .u8 1), .lit (.int .u8 1), .lit (.int .u8 1), .lit (.int .u8 1), .lit (.int .u8 1), .lit (.int .u8 1), .lit (.int .u8 1), .lit (.int .u8 1), .lit (.int .u8 1), .lit (.int .u8 1), .lit (.int .u8 1), .lit (.int .u8 1), .lit (.int .u8 1), .lit (.int .u8 1), .lit (.int .u8 1), .lit (.int .u8 1), .lit (.int .u8 1), .lit (.int .u8 1), .lit (.int .u8 1), .lit (.int .u8 1), .lit (.int .u8 1), .lit (.int .u8 1), .lit (.int .u8 1), .lit (.int .u8 144), .lit (.int .u8 130), .lit (.int .u8 130), .lit (.int .u8 130), .lit (.int .u8 136), .lit (.int .u8 130), .lit (.int .u8 130), .lit (.int .u8 130), .lit (.int .u8 130), .lit (.int .u8 130), .lit (.int .u8 130), .lit (.int .u8 136), .lit (.int .u8 130), .lit (.int .u8 130), .lit (.int .u8 130), .lit (.int .u8 130), .lit (.int .u8 132), .lit (.int .u8 132), .lit (.int .u8 132), .lit (.int .u8 132), .lit (.int .u8 132), .lit (.int .u8 132), .lit (.int .u8 132), .lit (.int .u8 132), .lit (.int .u8 132), .lit (.int .u8 132), .lit (.int .u8 130), .lit (.int .u8 130), .lit (.int .u8 136), .lit (.int .u8 136), .lit (.int .u8 136), .lit (.int .u8 130), .lit (.int .u8 130), .lit (.int .u8 160), .lit (.int .u8 160), .lit (.int .u8 160), .lit (.int .u8 160), .lit (.int .u8 160), .lit (.int .u8 160), .lit (.int .u8 160), .lit (.int .u8 160), .lit (.int .u8 160), .lit (.int .u8 160), .lit (.int .u8 160), .lit (.int .u8 160), .lit (.int .u8 160), .lit (.int .u8 160), .lit (.int .u8 160), .lit (.int .u8 160), .lit (.int .u8 160), .lit (.int .u8 160), .lit (.int .u8 160), .lit (.int .u8 160), .lit (.int .u8 160), .lit (.int .u8 160), .lit (.int .u8 160), .lit (.int .u8 160), .lit (.int .u8 160), .lit (.int .u8 160), .lit (.int .u8 130), .lit (.int .u8 130), .lit (.int .u8 130), .lit (.int .u8 136), .lit (.int .u8 130), .lit (.int .u8 136), .lit (.int .u8 192), .lit (.int .u8 192), .lit (.int .u8 192), .lit (.int .u8 192), .lit (.int .u8 192), .lit (.int .u8 192), .lit (.int .u8 192), .lit (.int .u8 192), .lit (.int .u8 192), .lit (.int .u8 192), .lit (.int .u8 192), .lit (.int .u8 192), .lit (.int .u8 192), .lit (.int .u8 192), .lit (.int .u8 192), .lit (.int .u8 192), .lit (.int .u8 192), .lit (.int .u8 192), .lit (.int .u8 192), .lit (.int .u8 192), .lit (.int .u8 192), .lit (.int .u8 192), .lit (.int .u8 192), .lit (.int .u8 192), .lit (.int .u8 192), .lit (.int .u8 192), .lit (.int .u8 130), .lit (.int .u8 136), .lit (.int .u8 130), .lit (.int .u8 136), .lit (.int .u8 1), .lit (.int .u8 1), .lit (.int .u8 1), .lit (.int .u8 1), .lit (.int .u8 1), .lit (.int .u8 1), .lit (.int .u8 1), .lit (.int .u8 1), .lit (.int .u8 1), .lit (.int .u8 1), .lit (.int .u8 1), .lit (.int .u8 1), .lit (.int .u8 1), .lit (.int .u8 1), .lit (.int .u8 1), .lit (.int .u8 1), .lit (.int .u8 1), .lit (.int .u8 1), .lit (.int .u8 1), .lit (.int .u8 1), .lit (.int .u8 1), .lit (.int .u8 1), .lit (.int .u8 1), .lit (.int .u8 1), .lit (.int .u8 1), .lit (.int .u8 1), .lit (.int .u8 1), .lit (.int .u8 1), .lit (.int .u8 1), .lit (.int .u8 1), .lit (.int .u8 1), .lit (.int .u8 1), .lit (.int .u8 1), .lit (.int .u8 16), .lit (.int .u8 130), .lit (.int .u8 136), .lit (.int .u8 136), .lit (.int .u8 136), .lit (.int .u8 136), .lit (.int .u8 136), .lit (.int .u8 130), .lit (.int .u8 136), .lit (.int .u8 136), .lit (.int .u8 224), .lit (.int .u8 130), .lit (.int .u8 136), .lit (.int .u8 0), .lit (.int .u8 136), .lit (.int .u8 136), .lit (.int .u8 136), .lit (.int .u8 136), .lit (.int .u8 132), .lit (.int .u8 132), .lit (.int .u8 136), .lit (.int .u8 192), .lit (.int .u8 130), .lit (.int .u8 130), .lit (.int .u8 136), .lit (.int .u8 132), .lit (.int .u8 224), .lit (.int .u8 130), .lit (.int .u8 132), .lit (.int .u8 132), .lit (.int .u8 132), .lit (.int .u8 130), .lit (.int .u8 160), .lit (.int .u8 160), .lit (.int .u8 160), .lit (.int .u8 160), .lit (.int .u8 160), .lit (.int .u8 160), .lit (.int .u8 160), .lit (.int .u8 160), .lit (.int .u8 160), .lit (.int .u8 160), .lit (.int .u8 160), .lit (.int .u8 160), .lit (.int .u8 160), .lit (.int .u8 160), .lit (.int .u8 160), .lit (.int .u8 160), .lit (.int .u8 160), .lit (.int .u8 160), .lit (.int .u8 160), .lit (.int .u8 160), .lit (.int .u8 160), .lit (.int .u8 160), .lit (.int .u8 160), .lit (.int .u8 136), .lit (.int .u8 160), .lit (.int .u8 160), .lit (.int .u8 160), .lit (.int .u8 160), .lit (.int .u8 160), .lit (.int .u8 160), .lit (.int .u8 160), .lit (.int .u8 192), .lit (.int .u8 192), .lit (.int .u8 192), .lit (.int .u8 192), .lit (.int .u8 192), .lit (.int .u8 192), .lit (.int .u8 192), .lit (.int .u8 192), .lit (.int .u8 192), .lit (.int .u8 192), .lit (.int .u8 192), .lit (.int .u8 192), .lit (.int .u8 192), .lit (.int .u8 192), .lit (.int .u8 192), .lit (.int .u8 192), .lit (.int .u8 192), .lit (.int .u8 192), .lit (.int .u8 192), .lit (.int .u8 192), .lit (.int .u8 192), .lit (.int .u8 192), .lit (.int .u8 192), .lit (.int .u8 192), .lit (.int .u8 136), .lit (.int .u8 192), .lit (.int .u8 192), .lit (.int .u8 192), .lit (.int .u8 192), .lit (.int .u8 192), .lit (.int .u8 192), .lit (.int .u8 192), .lit (.int .u8 192)]
/-- One of Go's own tables, pinned by name: the form's constant. -/
def laid_unicode_Lower : DataW Unit := Go.Pinned.lower
/-- One of Go's own tables, pinned by name: the form's constant. -/
def laid_unicode_Upper : DataW Unit := Go.Pinned.upper
def laid_bytes_ErrTooLarge {H : Type} : DataW H := .iface "*errors.errorString" (.ptr (.agg [.lit (.string [98, 121, 116, 101, 115, 46, 66, 117, 102, 102, 101, 114, 58, 32, 116, 111, 111, 32, 108, 97, 114, 103, 101])]))
/-- One of Go's own tables, pinned by name: the form's constant. -/
def laid_unicode_Digit : DataW Unit := Go.Pinned.digit
/-- One of Go's own tables, pinned by name: the form's constant. -/
def laid_unicode_Letter : DataW Unit := Go.Pinned.letter

/-- 'laws.FnScrub': WHATEVER THE INPUT: true; the input reads as it did. -/
def fnScrubSpec : ChangeSpec := { name := "fnScrub", fn := fun _ => fun
  | [d1, d2] => { results := [.lit (.bool true)], args := [d1, d2] }
  | _ => none }
def fnScrubRow : OpenClaim := { program := "ytpkdoinofenahaadoor", sum := "0e5d4189b74ceec423cf5494ef5aba2ff886b095c90d06ad5171acd4501907f8", func := "given.example/pub-budwood/laws.FnScrub", spec := "fnScrub", inPlace := ["internal/abi.NoEscape"], named := ["unicode/utf8.first", "unicode/utf8.acceptRanges"], apart := false, laid := [("unicode/utf8.acceptRanges", laid_unicode_utf8_acceptRanges), ("unicode/utf8.first", laid_unicode_utf8_first)] }
def FnScrubSaid : Prop := fnScrubRow.holds Tryd.pinned (OpenSpec.ofChange fnScrubSpec)

/-- ITS FALSE NEIGHBOUR: 'it returns false'. Refute it at one input. -/
def fnScrubWrong : ChangeSpec := { name := "fnScrub", fn := fun _ => fun
  | [d1, d2] => { results := [.lit (.bool false)], args := [d1, d2] }
  | _ => none }
def FnScrubWrongFalsely : Prop := fnScrubRow.holds Tryd.pinned (OpenSpec.ofChange fnScrubWrong)

/-- 'laws.FnJustified': WHATEVER THE INPUT: true; the input reads as it did. -/
def fnJustifiedSpec : ChangeSpec := { name := "fnJustified", fn := fun _ => fun
  | [d1, d2, d3] => { results := [.lit (.bool true)], args := [d1, d2, d3] }
  | _ => none }
def fnJustifiedRow : OpenClaim := { program := "ytpkdoinofenahaadoor", sum := "0e5d4189b74ceec423cf5494ef5aba2ff886b095c90d06ad5171acd4501907f8", func := "given.example/pub-budwood/laws.FnJustified", spec := "fnJustified", inPlace := ["internal/abi.NoEscape", "internal/bytealg.MakeNoZero"], named := ["unicode/utf8.first", "unicode/utf8.acceptRanges"], apart := false, laid := [("unicode/utf8.acceptRanges", laid_unicode_utf8_acceptRanges), ("unicode/utf8.first", laid_unicode_utf8_first)] }
def FnJustifiedSaid : Prop := fnJustifiedRow.holds Tryd.pinned (OpenSpec.ofChange fnJustifiedSpec)

/-- ITS FALSE NEIGHBOUR: 'it returns false'. Refute it at one input. -/
def fnJustifiedWrong : ChangeSpec := { name := "fnJustified", fn := fun _ => fun
  | [d1, d2, d3] => { results := [.lit (.bool false)], args := [d1, d2, d3] }
  | _ => none }
def FnJustifiedWrongFalsely : Prop := fnJustifiedRow.holds Tryd.pinned (OpenSpec.ofChange fnJustifiedWrong)

/-- 'laws.FnFirst': WHATEVER THE INPUT: true; the input reads as it did. -/
def fnFirstSpec : ChangeSpec := { name := "fnFirst", fn := fun _ => fun
  | [d] => { results := [.lit (.bool true)], args := [d] }
  | _ => none }
def fnFirstRow : OpenClaim := { program := "ytpkdoinofenahaadoor", sum := "0e5d4189b74ceec423cf5494ef5aba2ff886b095c90d06ad5171acd4501907f8", func := "given.example/pub-budwood/laws.FnFirst", spec := "fnFirst", inPlace := ["internal/abi.NoEscape"], named := ["unicode/utf8.first", "unicode/utf8.acceptRanges", "unicode.CaseRanges"], apart := false, laid := [("unicode/utf8.acceptRanges", laid_unicode_utf8_acceptRanges), ("unicode.CaseRanges", laid_unicode_CaseRanges), ("unicode/utf8.first", laid_unicode_utf8_first)] }
def FnFirstSaid : Prop := fnFirstRow.holds Tryd.pinned (OpenSpec.ofChange fnFirstSpec)

/-- ITS FALSE NEIGHBOUR: 'it returns false'. Refute it at one input. -/
def fnFirstWrong : ChangeSpec := { name := "fnFirst", fn := fun _ => fun
  | [d] => { results := [.lit (.bool false)], args := [d] }
  | _ => none }
def FnFirstWrongFalsely : Prop := fnFirstRow.holds Tryd.pinned (OpenSpec.ofChange fnFirstWrong)

/-- 'laws.FnSwapCase': WHATEVER THE INPUT: true; the input reads as it did. -/
def fnSwapCaseSpec : ChangeSpec := { name := "fnSwapCase", fn := fun _ => fun
  | [d] => { results := [.lit (.bool true)], args := [d] }
  | _ => none }
def fnSwapCaseRow : OpenClaim := { program := "ytpkdoinofenahaadoor", sum := "0e5d4189b74ceec423cf5494ef5aba2ff886b095c90d06ad5171acd4501907f8", func := "given.example/pub-budwood/laws.FnSwapCase", spec := "fnSwapCase", named := ["unicode.properties", "unicode.Upper", "unicode.CaseRanges", "unicode.Title", "unicode.Lower", "unicode.White_Space"], apart := false, laid := [("unicode.Title", laid_unicode_Title), ("unicode.White_Space", laid_unicode_White_Space), ("unicode.properties", laid_unicode_properties), ("unicode.CaseRanges", laid_unicode_CaseRanges), ("unicode.Lower", laid_unicode_Lower), ("unicode.Upper", laid_unicode_Upper)] }
def FnSwapCaseSaid : Prop := fnSwapCaseRow.holds Tryd.pinned (OpenSpec.ofChange fnSwapCaseSpec)

/-- ITS FALSE NEIGHBOUR: 'it returns false'. Refute it at one input. -/
def fnSwapCaseWrong : ChangeSpec := { name := "fnSwapCase", fn := fun _ => fun
  | [d] => { results := [.lit (.bool false)], args := [d] }
  | _ => none }
def FnSwapCaseWrongFalsely : Prop := fnSwapCaseRow.holds Tryd.pinned (OpenSpec.ofChange fnSwapCaseWrong)

/-- 'laws.FnWrapCustom': WHATEVER THE INPUT: true; the input reads as it did. -/
def fnWrapCustomSpec : ChangeSpec := { name := "fnWrapCustom", fn := fun _ => fun
  | [d1, d2, d3, d4] => { results := [.lit (.bool true)], args := [d1, d2, d3, d4] }
  | _ => none }
def fnWrapCustomRow : OpenClaim := { program := "ytpkdoinofenahaadoor", sum := "0e5d4189b74ceec423cf5494ef5aba2ff886b095c90d06ad5171acd4501907f8", func := "given.example/pub-budwood/laws.FnWrapCustom", spec := "fnWrapCustom", named := ["bytes.ErrTooLarge"], apart := false, laid := [("bytes.ErrTooLarge", laid_bytes_ErrTooLarge)] }
def FnWrapCustomSaid : Prop := fnWrapCustomRow.holds Tryd.pinned (OpenSpec.ofChange fnWrapCustomSpec)

/-- ITS FALSE NEIGHBOUR: 'it returns false'. Refute it at one input. -/
def fnWrapCustomWrong : ChangeSpec := { name := "fnWrapCustom", fn := fun _ => fun
  | [d1, d2, d3, d4] => { results := [.lit (.bool false)], args := [d1, d2, d3, d4] }
  | _ => none }
def FnWrapCustomWrongFalsely : Prop := fnWrapCustomRow.holds Tryd.pinned (OpenSpec.ofChange fnWrapCustomWrong)

/-- 'laws.FnWrapLines': WHATEVER THE INPUT: true; the input reads as it did. -/
def fnWrapLinesSpec : ChangeSpec := { name := "fnWrapLines", fn := fun _ => fun
  | [d1, d2] => { results := [.lit (.bool true)], args := [d1, d2] }
  | _ => none }
def fnWrapLinesRow : OpenClaim := { program := "ytpkdoinofenahaadoor", sum := "0e5d4189b74ceec423cf5494ef5aba2ff886b095c90d06ad5171acd4501907f8", func := "given.example/pub-budwood/laws.FnWrapLines", spec := "fnWrapLines", named := ["bytes.ErrTooLarge"], apart := false, laid := [("bytes.ErrTooLarge", laid_bytes_ErrTooLarge)] }
def FnWrapLinesSaid : Prop := fnWrapLinesRow.holds Tryd.pinned (OpenSpec.ofChange fnWrapLinesSpec)

/-- ITS FALSE NEIGHBOUR: 'it returns false'. Refute it at one input. -/
def fnWrapLinesWrong : ChangeSpec := { name := "fnWrapLines", fn := fun _ => fun
  | [d1, d2] => { results := [.lit (.bool false)], args := [d1, d2] }
  | _ => none }
def FnWrapLinesWrongFalsely : Prop := fnWrapLinesRow.holds Tryd.pinned (OpenSpec.ofChange fnWrapLinesWrong)

/-- 'laws.FnInitialsBy': WHATEVER THE INPUT: true; the input reads as it did. -/
def fnInitialsBySpec : ChangeSpec := { name := "fnInitialsBy", fn := fun _ => fun
  | [d1, d2] => { results := [.lit (.bool true)], args := [d1, d2] }
  | _ => none }
def fnInitialsByRow : OpenClaim := { program := "ytpkdoinofenahaadoor", sum := "0e5d4189b74ceec423cf5494ef5aba2ff886b095c90d06ad5171acd4501907f8", func := "given.example/pub-budwood/laws.FnInitialsBy", spec := "fnInitialsBy", named := ["unicode.White_Space", "bytes.ErrTooLarge"], apart := false, laid := [("unicode.White_Space", laid_unicode_White_Space), ("bytes.ErrTooLarge", laid_bytes_ErrTooLarge)] }
def FnInitialsBySaid : Prop := fnInitialsByRow.holds Tryd.pinned (OpenSpec.ofChange fnInitialsBySpec)

/-- ITS FALSE NEIGHBOUR: 'it returns false'. Refute it at one input. -/
def fnInitialsByWrong : ChangeSpec := { name := "fnInitialsBy", fn := fun _ => fun
  | [d1, d2] => { results := [.lit (.bool false)], args := [d1, d2] }
  | _ => none }
def FnInitialsByWrongFalsely : Prop := fnInitialsByRow.holds Tryd.pinned (OpenSpec.ofChange fnInitialsByWrong)

/-- 'laws.FnSwapAll': WHATEVER THE INPUT: true; the input reads as it did. -/
def fnSwapAllSpec : ChangeSpec := { name := "fnSwapAll", fn := fun _ => fun
  | [d] => { results := [.lit (.bool true)], args := [d] }
  | _ => none }
def fnSwapAllRow : OpenClaim := { program := "ytpkdoinofenahaadoor", sum := "0e5d4189b74ceec423cf5494ef5aba2ff886b095c90d06ad5171acd4501907f8", func := "given.example/pub-budwood/laws.FnSwapAll", spec := "fnSwapAll", inPlace := ["internal/abi.NoEscape"], named := ["unicode/utf8.first", "unicode/utf8.acceptRanges", "unicode.properties", "unicode.Upper", "unicode.CaseRanges", "unicode.Lower"], apart := false, laid := [("unicode/utf8.acceptRanges", laid_unicode_utf8_acceptRanges), ("unicode.properties", laid_unicode_properties), ("unicode.CaseRanges", laid_unicode_CaseRanges), ("unicode.Lower", laid_unicode_Lower), ("unicode.Upper", laid_unicode_Upper), ("unicode/utf8.first", laid_unicode_utf8_first)] }
def FnSwapAllSaid : Prop := fnSwapAllRow.holds Tryd.pinned (OpenSpec.ofChange fnSwapAllSpec)

/-- ITS FALSE NEIGHBOUR: 'it returns false'. Refute it at one input. -/
def fnSwapAllWrong : ChangeSpec := { name := "fnSwapAll", fn := fun _ => fun
  | [d] => { results := [.lit (.bool false)], args := [d] }
  | _ => none }
def FnSwapAllWrongFalsely : Prop := fnSwapAllRow.holds Tryd.pinned (OpenSpec.ofChange fnSwapAllWrong)

/-- 'laws.FnCamelLow': WHATEVER THE INPUT: true; the input reads as it did. -/
def fnCamelLowSpec : ChangeSpec := { name := "fnCamelLow", fn := fun _ => fun
  | [d1, d2] => { results := [.lit (.bool true)], args := [d1, d2] }
  | _ => none }
def fnCamelLowRow : OpenClaim := { program := "ytpkdoinofenahaadoor", sum := "0e5d4189b74ceec423cf5494ef5aba2ff886b095c90d06ad5171acd4501907f8", func := "given.example/pub-budwood/laws.FnCamelLow", spec := "fnCamelLow", inPlace := ["internal/abi.NoEscape"], named := ["unicode/utf8.first", "unicode/utf8.acceptRanges", "unicode.White_Space", "unicode.properties", "unicode.Upper", "unicode.CaseRanges"], apart := false, laid := [("unicode/utf8.acceptRanges", laid_unicode_utf8_acceptRanges), ("unicode.White_Space", laid_unicode_White_Space), ("unicode.properties", laid_unicode_properties), ("unicode.CaseRanges", laid_unicode_CaseRanges), ("unicode.Upper", laid_unicode_Upper), ("unicode/utf8.first", laid_unicode_utf8_first)] }
def FnCamelLowSaid : Prop := fnCamelLowRow.holds Tryd.pinned (OpenSpec.ofChange fnCamelLowSpec)

/-- ITS FALSE NEIGHBOUR: 'it returns false'. Refute it at one input. -/
def fnCamelLowWrong : ChangeSpec := { name := "fnCamelLow", fn := fun _ => fun
  | [d1, d2] => { results := [.lit (.bool false)], args := [d1, d2] }
  | _ => none }
def FnCamelLowWrongFalsely : Prop := fnCamelLowRow.holds Tryd.pinned (OpenSpec.ofChange fnCamelLowWrong)

/-- 'laws.FnTitle': WHATEVER THE INPUT: true; the input reads as it did. -/
def fnTitleSpec : ChangeSpec := { name := "fnTitle", fn := fun _ => fun
  | [d] => { results := [.lit (.bool true)], args := [d] }
  | _ => none }
def fnTitleRow : OpenClaim := { program := "ytpkdoinofenahaadoor", sum := "0e5d4189b74ceec423cf5494ef5aba2ff886b095c90d06ad5171acd4501907f8", func := "given.example/pub-budwood/laws.FnTitle", spec := "fnTitle", inPlace := ["internal/abi.NoEscape", "internal/bytealg.MakeNoZero"], unfollowed := true, recurses := true, named := ["unicode.properties", "unicode.Letter", "unicode.Digit", "unicode.White_Space", "unicode.CaseRanges", "unicode/utf8.first", "unicode/utf8.acceptRanges"], apart := false, laid := [("unicode/utf8.acceptRanges", laid_unicode_utf8_acceptRanges), ("unicode.White_Space", laid_unicode_White_Space), ("unicode.properties", laid_unicode_properties), ("unicode.CaseRanges", laid_unicode_CaseRanges), ("unicode.Digit", laid_unicode_Digit), ("unicode.Letter", laid_unicode_Letter), ("unicode/utf8.first", laid_unicode_utf8_first)] }
def FnTitleSaid : Prop := fnTitleRow.holds Tryd.pinned (OpenSpec.ofChange fnTitleSpec)

/-- ITS FALSE NEIGHBOUR: 'it returns false'. Refute it at one input. -/
def fnTitleWrong : ChangeSpec := { name := "fnTitle", fn := fun _ => fun
  | [d] => { results := [.lit (.bool false)], args := [d] }
  | _ => none }
def FnTitleWrongFalsely : Prop := fnTitleRow.holds Tryd.pinned (OpenSpec.ofChange fnTitleWrong)

/- THE SECOND FORM. 'bulk': how many values and letters a reading holds, each counted each time it is reached (what is shared counts as often as it is met; a slice's spare places count too). A statement '..UptoSaid' is the law's where the arguments, and the package variables that the reading takes, are together of bulk at most 1048576: NARROWER than '..Said'. Prove '..Said' where nothing that the law and all that it calls make is longer than what came in: it says more and counts as full. Else prove '..UptoSaid'. A law counts once. -/
mutual
def uptoBulk {H : Type} : DataW H → Nat
  | .lit (.string bytes) => bytes.length + 1
  | .lit _ => 1
  | .nil => 1
  | .ptr d => uptoBulk d + 1
  | .slice elems spare => uptoBulkAll elems + uptoBulkAll spare + 1
  | .agg parts => uptoBulkAll parts + 1
  | .iface _ d => uptoBulk d + 1
  | .map entries => uptoBulkEntries entries + 1
  | .held _ => 1
def uptoBulkAll {H : Type} : List (DataW H) → Nat
  | [] => 0
  | d :: r => uptoBulk d + uptoBulkAll r
def uptoBulkEntries {H : Type} : List (Lit × DataW H) → Nat
  | [] => 0
  | x :: r => uptoBulkEntry x + uptoBulkEntries r
def uptoBulkEntry {H : Type} : Lit × DataW H → Nat
  | (.string bytes, d) => bytes.length + uptoBulk d + 1
  | (_, d) => uptoBulk d + 1
 end
def uptoSmall : (H : Type) → List (DataW H) → Bool := fun _ ds => decide (uptoBulkAll ds ≤ 1048576)
def OpenSpec.upto (s : _root_.Go.ChangeSpec) : _root_.Go.OpenSpec := { _root_.Go.OpenSpec.ofChange s with cond := some uptoSmall }

/-- 'laws.FnScrub', WHERE WHAT IT READS IS OF BULK AT MOST 1048576: true; the input reads as it did. -/
def fnScrubUptoRow : OpenClaim := { program := "ytpkdoinofenahaadoor", sum := "0e5d4189b74ceec423cf5494ef5aba2ff886b095c90d06ad5171acd4501907f8", func := "given.example/pub-budwood/laws.FnScrub", spec := "fnScrub", inPlace := ["internal/abi.NoEscape"], named := ["unicode/utf8.first", "unicode/utf8.acceptRanges"], apart := false, laid := [("unicode/utf8.acceptRanges", laid_unicode_utf8_acceptRanges), ("unicode/utf8.first", laid_unicode_utf8_first)], narrowed := true }
def FnScrubUptoSaid : Prop := fnScrubUptoRow.holds Tryd.pinned (OpenSpec.upto fnScrubSpec)

/-- 'laws.FnJustified', WHERE WHAT IT READS IS OF BULK AT MOST 1048576: true; the input reads as it did. -/
def fnJustifiedUptoRow : OpenClaim := { program := "ytpkdoinofenahaadoor", sum := "0e5d4189b74ceec423cf5494ef5aba2ff886b095c90d06ad5171acd4501907f8", func := "given.example/pub-budwood/laws.FnJustified", spec := "fnJustified", inPlace := ["internal/abi.NoEscape", "internal/bytealg.MakeNoZero"], named := ["unicode/utf8.first", "unicode/utf8.acceptRanges"], apart := false, laid := [("unicode/utf8.acceptRanges", laid_unicode_utf8_acceptRanges), ("unicode/utf8.first", laid_unicode_utf8_first)], narrowed := true }
def FnJustifiedUptoSaid : Prop := fnJustifiedUptoRow.holds Tryd.pinned (OpenSpec.upto fnJustifiedSpec)

/-- 'laws.FnFirst', WHERE WHAT IT READS IS OF BULK AT MOST 1048576: true; the input reads as it did. -/
def fnFirstUptoRow : OpenClaim := { program := "ytpkdoinofenahaadoor", sum := "0e5d4189b74ceec423cf5494ef5aba2ff886b095c90d06ad5171acd4501907f8", func := "given.example/pub-budwood/laws.FnFirst", spec := "fnFirst", inPlace := ["internal/abi.NoEscape"], named := ["unicode/utf8.first", "unicode/utf8.acceptRanges", "unicode.CaseRanges"], apart := false, laid := [("unicode/utf8.acceptRanges", laid_unicode_utf8_acceptRanges), ("unicode.CaseRanges", laid_unicode_CaseRanges), ("unicode/utf8.first", laid_unicode_utf8_first)], narrowed := true }
def FnFirstUptoSaid : Prop := fnFirstUptoRow.holds Tryd.pinned (OpenSpec.upto fnFirstSpec)

/-- 'laws.FnSwapCase', WHERE WHAT IT READS IS OF BULK AT MOST 1048576: true; the input reads as it did. -/
def fnSwapCaseUptoRow : OpenClaim := { program := "ytpkdoinofenahaadoor", sum := "0e5d4189b74ceec423cf5494ef5aba2ff886b095c90d06ad5171acd4501907f8", func := "given.example/pub-budwood/laws.FnSwapCase", spec := "fnSwapCase", named := ["unicode.properties", "unicode.Upper", "unicode.CaseRanges", "unicode.Title", "unicode.Lower", "unicode.White_Space"], apart := false, laid := [("unicode.Title", laid_unicode_Title), ("unicode.White_Space", laid_unicode_White_Space), ("unicode.properties", laid_unicode_properties), ("unicode.CaseRanges", laid_unicode_CaseRanges), ("unicode.Lower", laid_unicode_Lower), ("unicode.Upper", laid_unicode_Upper)], narrowed := true }
def FnSwapCaseUptoSaid : Prop := fnSwapCaseUptoRow.holds Tryd.pinned (OpenSpec.upto fnSwapCaseSpec)

/-- 'laws.FnWrapCustom', WHERE WHAT IT READS IS OF BULK AT MOST 1048576: true; the input reads as it did. -/
def fnWrapCustomUptoRow : OpenClaim := { program := "ytpkdoinofenahaadoor", sum := "0e5d4189b74ceec423cf5494ef5aba2ff886b095c90d06ad5171acd4501907f8", func := "given.example/pub-budwood/laws.FnWrapCustom", spec := "fnWrapCustom", named := ["bytes.ErrTooLarge"], apart := false, laid := [("bytes.ErrTooLarge", laid_bytes_ErrTooLarge)], narrowed := true }
def FnWrapCustomUptoSaid : Prop := fnWrapCustomUptoRow.holds Tryd.pinned (OpenSpec.upto fnWrapCustomSpec)

/-- 'laws.FnWrapLines', WHERE WHAT IT READS IS OF BULK AT MOST 1048576: true; the input reads as it did. -/
def fnWrapLinesUptoRow : OpenClaim := { program := "ytpkdoinofenahaadoor", sum := "0e5d4189b74ceec423cf5494ef5aba2ff886b095c90d06ad5171acd4501907f8", func := "given.example/pub-budwood/laws.FnWrapLines", spec := "fnWrapLines", named := ["bytes.ErrTooLarge"], apart := false, laid := [("bytes.ErrTooLarge", laid_bytes_ErrTooLarge)], narrowed := true }
def FnWrapLinesUptoSaid : Prop := fnWrapLinesUptoRow.holds Tryd.pinned (OpenSpec.upto fnWrapLinesSpec)

/-- 'laws.FnInitialsBy', WHERE WHAT IT READS IS OF BULK AT MOST 1048576: true; the input reads as it did. -/
def fnInitialsByUptoRow : OpenClaim := { program := "ytpkdoinofenahaadoor", sum := "0e5d4189b74ceec423cf5494ef5aba2ff886b095c90d06ad5171acd4501907f8", func := "given.example/pub-budwood/laws.FnInitialsBy", spec := "fnInitialsBy", named := ["unicode.White_Space", "bytes.ErrTooLarge"], apart := false, laid := [("unicode.White_Space", laid_unicode_White_Space), ("bytes.ErrTooLarge", laid_bytes_ErrTooLarge)], narrowed := true }
def FnInitialsByUptoSaid : Prop := fnInitialsByUptoRow.holds Tryd.pinned (OpenSpec.upto fnInitialsBySpec)

/-- 'laws.FnSwapAll', WHERE WHAT IT READS IS OF BULK AT MOST 1048576: true; the input reads as it did. -/
def fnSwapAllUptoRow : OpenClaim := { program := "ytpkdoinofenahaadoor", sum := "0e5d4189b74ceec423cf5494ef5aba2ff886b095c90d06ad5171acd4501907f8", func := "given.example/pub-budwood/laws.FnSwapAll", spec := "fnSwapAll", inPlace := ["internal/abi.NoEscape"], named := ["unicode/utf8.first", "unicode/utf8.acceptRanges", "unicode.properties", "unicode.Upper", "unicode.CaseRanges", "unicode.Lower"], apart := false, laid := [("unicode/utf8.acceptRanges", laid_unicode_utf8_acceptRanges), ("unicode.properties", laid_unicode_properties), ("unicode.CaseRanges", laid_unicode_CaseRanges), ("unicode.Lower", laid_unicode_Lower), ("unicode.Upper", laid_unicode_Upper), ("unicode/utf8.first", laid_unicode_utf8_first)], narrowed := true }
def FnSwapAllUptoSaid : Prop := fnSwapAllUptoRow.holds Tryd.pinned (OpenSpec.upto fnSwapAllSpec)

/-- 'laws.FnCamelLow', WHERE WHAT IT READS IS OF BULK AT MOST 1048576: true; the input reads as it did. -/
def fnCamelLowUptoRow : OpenClaim := { program := "ytpkdoinofenahaadoor", sum := "0e5d4189b74ceec423cf5494ef5aba2ff886b095c90d06ad5171acd4501907f8", func := "given.example/pub-budwood/laws.FnCamelLow", spec := "fnCamelLow", inPlace := ["internal/abi.NoEscape"], named := ["unicode/utf8.first", "unicode/utf8.acceptRanges", "unicode.White_Space", "unicode.properties", "unicode.Upper", "unicode.CaseRanges"], apart := false, laid := [("unicode/utf8.acceptRanges", laid_unicode_utf8_acceptRanges), ("unicode.White_Space", laid_unicode_White_Space), ("unicode.properties", laid_unicode_properties), ("unicode.CaseRanges", laid_unicode_CaseRanges), ("unicode.Upper", laid_unicode_Upper), ("unicode/utf8.first", laid_unicode_utf8_first)], narrowed := true }
def FnCamelLowUptoSaid : Prop := fnCamelLowUptoRow.holds Tryd.pinned (OpenSpec.upto fnCamelLowSpec)

/-- 'laws.FnTitle', WHERE WHAT IT READS IS OF BULK AT MOST 1048576: true; the input reads as it did. -/
def fnTitleUptoRow : OpenClaim := { program := "ytpkdoinofenahaadoor", sum := "0e5d4189b74ceec423cf5494ef5aba2ff886b095c90d06ad5171acd4501907f8", func := "given.example/pub-budwood/laws.FnTitle", spec := "fnTitle", inPlace := ["internal/abi.NoEscape", "internal/bytealg.MakeNoZero"], unfollowed := true, recurses := true, named := ["unicode.properties", "unicode.Letter", "unicode.Digit", "unicode.White_Space", "unicode.CaseRanges", "unicode/utf8.first", "unicode/utf8.acceptRanges"], apart := false, laid := [("unicode/utf8.acceptRanges", laid_unicode_utf8_acceptRanges), ("unicode.White_Space", laid_unicode_White_Space), ("unicode.properties", laid_unicode_properties), ("unicode.CaseRanges", laid_unicode_CaseRanges), ("unicode.Digit", laid_unicode_Digit), ("unicode.Letter", laid_unicode_Letter), ("unicode/utf8.first", laid_unicode_utf8_first)], narrowed := true }
def FnTitleUptoSaid : Prop := fnTitleUptoRow.holds Tryd.pinned (OpenSpec.upto fnTitleSpec)

end Rows
end Go.Proofs.YtpkdoinofenahaaDoor
