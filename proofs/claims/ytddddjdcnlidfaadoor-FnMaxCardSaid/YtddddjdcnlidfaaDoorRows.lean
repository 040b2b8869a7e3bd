/-
  NARROWER THAN 'FOR EVERY INPUT', by the rows' own cells (each row's printed sentence says how): FnSeqUntil: laid · FnDurationRound: laid · FnAtoi: laid · FnMul: laid · FnAdd: laid · FnMax: laid · FnCastText: laid.
  DERIVED. THE GIVEN ROWS OF THIS SEAT. 7 by the template 'for every input the law returns true; each argument reads behind the call as it read before'; 0 by the template 'total and deterministic' (their statements: YtddddjdcnlidfaaDoorTotals.lean).
  GIVEN WITH THE SEED: the statements are not yours to turn. If you find one false, say at which input.
  Laid BY PROGRAM, IN A SANDBOX (cutbox-rows.mjs): the forced cells as the released guide's own fill.sh prints them over the translation dd43e25271b06bcf… (all of the seat's roots in one cut). By AI agents, Wed Nov 11 2026. No macro, syntax, notation, axiom, sorry.
-/
import Derived.Test.YtddddjdcnlidfaaDoorChecked
import GoSem.Claim
import GoSem.ClaimJoined
import GoSem.ClaimMapViews
import Derived.JoinedTies
import Derived.KernelRfl
namespace Go.Proofs.YtddddjdcnlidfaaDoor
/- THE CELL 'sum', in the pinned program and in every row, IS THE sha256 OF THE DUMP (.gsa) THAT YtddddjdcnlidfaaDoorProg.lean LOADS. Nothing in Lean hashes anything: it is a label: what it is worth is what the hold of that sum in a sandbox is worth. -/
noncomputable def Tryd.pinned : Pinned := { name := "ytddddjdcnlidfaadoor", sum := "dd43e25271b06bcfb93619d4b8727f830b83d4f3a3fcdbb896e8a1989a6fbc70", checked := Tryd.checked }
namespace Rows
def none {H : Type} : Left H := { results := [], args := [] }

/- WHAT THE LISTED PACKAGE-LEVEL VARIABLES READ AS WHEN THE CALL BEGINS. Each datum BY PROGRAM (the guide's laid-datum.mjs) off the statement by which the dump's own 'gosem.cut.vars' lays the variable. In a bare row this is a premise. The card (YtddddjdcnlidfaaDoorCards.lean) ties it to the program's text. -/
def laid_math_bits_deBruijn32tab {H : Type} : DataW H := .agg [.lit (.int .u8 0), .lit (.int .u8 1), .lit (.int .u8 28), .lit (.int .u8 2), .lit (.int .u8 29), .lit (.int .u8 14), .lit (.int .u8 24), .lit (.int .u8 3), .lit (.int .u8 30), .lit (.int .u8 22), .lit (.int .u8 20), .lit (.int .u8 15), .lit (.int .u8 25), .lit (.int .u8 17), .lit (.int .u8 4), .lit (.int .u8 8), .lit (.int .u8 31), .lit (.int .u8 27), .lit (.int .u8 13), .lit (.int .u8 23), .lit (.int .u8 21), .lit (.int .u8 19), .lit (.int .u8 16), .lit (.int .u8 7), .lit (.int .u8 26), .lit (.int .u8 12), .lit (.int .u8 18), .lit (.int .u8 6), .lit (.int .u8 11), .lit (.int .u8 5), .lit (.int .u8 10), .lit (.int .u8 9)]
def laid_math_bits_deBruijn64tab {H : Type} : DataW H := .agg [.lit (.int .u8 0), .lit (.int .u8 1), .lit (.int .u8 56), .lit (.int .u8 2), .lit (.int .u8 57), .lit (.int .u8 49), .lit (.int .u8 28), .lit (.int .u8 3), .lit (.int .u8 61), .lit (.int .u8 58), .lit (.int .u8 42), .lit (.int .u8 50), .lit (.int .u8 38), .lit (.int .u8 29), .lit (.int .u8 17), .lit (.int .u8 4), .lit (.int .u8 62), .lit (.int .u8 47), .lit (.int .u8 59), .lit (.int .u8 36), .lit (.int .u8 45), .lit (.int .u8 43), .lit (.int .u8 51), .lit (.int .u8 22), .lit (.int .u8 53), .lit (.int .u8 39), .lit (.int .u8 33), .lit (.int .u8 30), .lit (.int .u8 24), .lit (.int .u8 18), .lit (.int .u8 12), .lit (.int .u8 5), .lit (.int .u8 63), .lit (.int .u8 55), .lit (.int .u8 48), .lit (.int .u8 27), .lit (.int .u8 60), .lit (.int .u8 41), .lit (.int .u8 37), .lit (.int .u8 16), .lit (.int .u8 46), .lit (.int .u8 35), .lit (.int .u8 44), .lit (.int .u8 21), .lit (.int .u8 52), .lit (.int .u8 32), .lit (.int .u8 23), .lit (.int .u8 11), .lit (.int .u8 54), .lit (.int .u8 26), .lit (.int .u8 40), .lit (.int .u8 15), .lit (.int .u8 34), .lit (.int .u8 20), .lit (.int .u8 31), .lit (.int .u8 10), .lit (.int .u8 25), .lit (.int .u8 14), .lit (.int .u8 19), .lit (.int .u8 9), .lit (.int .u8 13), .lit (.int .u8 8), .lit (.int .u8 7), .lit (.int .u8 6)]
def laid_internal_strconv_uint64pow10 {H : Type} : DataW H := .agg [.lit (.int .u64 1), .lit (.int .u64 10), .lit (.int .u64 100), .lit (.int .u64 1000), .lit (.int .u64 10000), .lit (.int .u64 100000), .lit (.int .u64 1000000), .lit (.int .u64 10000000), .lit (.int .u64 100000000), .lit (.int .u64 1000000000), .lit (.int .u64 10000000000), .lit (.int .u64 100000000000), .lit (.int .u64 1000000000000), .lit (.int .u64 10000000000000), .lit (.int .u64 100000000000000), .lit (.int .u64 1000000000000000), .lit (.int .u64 10000000000000000), .lit (.int .u64 100000000000000000), .lit (.int .u64 1000000000000000000), .lit (.int .u64 10000000000000000000)]
def laid_time_errLeadingInt {H : Type} : DataW H := .iface "*errors.errorString" (.ptr (.agg [.lit (.string [116, 105, 109, 101, 58, 32, 98, 97, 100, 32, 91, 48, 45, 57, 93, 42])]))
def laid_time_unitMap {H : Type} : DataW H := .map [(.string [104], .lit (.int .u64 3600000000000)), (.string [109], .lit (.int .u64 60000000000)), (.string [109, 115], .lit (.int .u64 1000000)), (.string [110, 115], .lit (.int .u64 1)), (.string [115], .lit (.int .u64 1000000000)), (.string [117, 115], .lit (.int .u64 1000)), (.string [194, 181, 115], .lit (.int .u64 1000)), (.string [206, 188, 115], .lit (.int .u64 1000))]
def laid_strconv_ErrRange {H : Type} : DataW H := .iface "*errors.errorString" (.ptr (.agg [.lit (.string [118, 97, 108, 117, 101, 32, 111, 117, 116, 32, 111, 102, 32, 114, 97, 110, 103, 101])]))
def laid_strconv_ErrSyntax {H : Type} : DataW H := .iface "*errors.errorString" (.ptr (.agg [.lit (.string [105, 110, 118, 97, 108, 105, 100, 32, 115, 121, 110, 116, 97, 120])]))

/-- 'laws.FnSeqUntil': WHATEVER THE INPUT: true; the input reads as it did. -/
def fnSeqUntilSpec : ChangeSpec := { name := "fnSeqUntil", fn := fun _ => fun
  | [d] => { results := [.lit (.bool true)], args := [d] }
  | _ => none }
def fnSeqUntilRow : OpenClaim := { program := "ytddddjdcnlidfaadoor", sum := "dd43e25271b06bcfb93619d4b8727f830b83d4f3a3fcdbb896e8a1989a6fbc70", func := "given.example/pub-budwood/laws.FnSeqUntil", spec := "fnSeqUntil", inPlace := ["internal/abi.NoEscape", "internal/bytealg.MakeNoZero"], named := ["internal/strconv.uint64pow10", "math/bits.deBruijn32tab", "math/bits.deBruijn64tab"], apart := false, laid := [("math/bits.deBruijn32tab", laid_math_bits_deBruijn32tab), ("math/bits.deBruijn64tab", laid_math_bits_deBruijn64tab), ("internal/strconv.uint64pow10", laid_internal_strconv_uint64pow10)] }
def FnSeqUntilSaid : Prop := fnSeqUntilRow.holds Tryd.pinned (OpenSpec.ofChange fnSeqUntilSpec)

/-- ITS FALSE NEIGHBOUR: 'it returns false'. Refute it at one input. -/
def fnSeqUntilWrong : ChangeSpec := { name := "fnSeqUntil", fn := fun _ => fun
  | [d] => { results := [.lit (.bool false)], args := [d] }
  | _ => none }
def FnSeqUntilWrongFalsely : Prop := fnSeqUntilRow.holds Tryd.pinned (OpenSpec.ofChange fnSeqUntilWrong)

/-- 'laws.FnDurationRound': WHATEVER THE INPUT: true; the input reads as it did. -/
def fnDurationRoundSpec : ChangeSpec := { name := "fnDurationRound", fn := fun _ => fun
  | [d] => { results := [.lit (.bool true)], args := [d] }
  | _ => none }
def fnDurationRoundRow : OpenClaim := { program := "ytddddjdcnlidfaadoor", sum := "dd43e25271b06bcfb93619d4b8727f830b83d4f3a3fcdbb896e8a1989a6fbc70", func := "given.example/pub-budwood/laws.FnDurationRound", spec := "fnDurationRound", named := ["internal/strconv.uint64pow10", "math/bits.deBruijn32tab", "math/bits.deBruijn64tab", "time.unitMap", "time.errLeadingInt"], apart := false, laid := [("math/bits.deBruijn32tab", laid_math_bits_deBruijn32tab), ("math/bits.deBruijn64tab", laid_math_bits_deBruijn64tab), ("internal/strconv.uint64pow10", laid_internal_strconv_uint64pow10), ("time.errLeadingInt", laid_time_errLeadingInt), ("time.unitMap", laid_time_unitMap)] }
def FnDurationRoundSaid : Prop := fnDurationRoundRow.holds Tryd.pinned (OpenSpec.ofChange fnDurationRoundSpec)

/-- ITS FALSE NEIGHBOUR: 'it returns false'. Refute it at one input. -/
def fnDurationRoundWrong : ChangeSpec := { name := "fnDurationRound", fn := fun _ => fun
  | [d] => { results := [.lit (.bool false)], args := [d] }
  | _ => none }
def FnDurationRoundWrongFalsely : Prop := fnDurationRoundRow.holds Tryd.pinned (OpenSpec.ofChange fnDurationRoundWrong)

/-- 'laws.FnAtoi': WHATEVER THE INPUT: true; the input reads as it did. -/
def fnAtoiSpec : ChangeSpec := { name := "fnAtoi", fn := fun _ => fun
  | [d] => { results := [.lit (.bool true)], args := [d] }
  | _ => none }
def fnAtoiRow : OpenClaim := { program := "ytddddjdcnlidfaadoor", sum := "dd43e25271b06bcfb93619d4b8727f830b83d4f3a3fcdbb896e8a1989a6fbc70", func := "given.example/pub-budwood/laws.FnAtoi", spec := "fnAtoi", named := ["strconv.ErrSyntax", "strconv.ErrRange", "internal/strconv.uint64pow10", "math/bits.deBruijn32tab", "math/bits.deBruijn64tab"], apart := false, laid := [("math/bits.deBruijn32tab", laid_math_bits_deBruijn32tab), ("math/bits.deBruijn64tab", laid_math_bits_deBruijn64tab), ("internal/strconv.uint64pow10", laid_internal_strconv_uint64pow10), ("strconv.ErrRange", laid_strconv_ErrRange), ("strconv.ErrSyntax", laid_strconv_ErrSyntax)] }
def FnAtoiSaid : Prop := fnAtoiRow.holds Tryd.pinned (OpenSpec.ofChange fnAtoiSpec)

/-- ITS FALSE NEIGHBOUR: 'it returns false'. Refute it at one input. -/
def fnAtoiWrong : ChangeSpec := { name := "fnAtoi", fn := fun _ => fun
  | [d] => { results := [.lit (.bool false)], args := [d] }
  | _ => none }
def FnAtoiWrongFalsely : Prop := fnAtoiRow.holds Tryd.pinned (OpenSpec.ofChange fnAtoiWrong)

/-- 'laws.FnMul': WHATEVER THE INPUT: true; the input reads as it did. -/
def fnMulSpec : ChangeSpec := { name := "fnMul", fn := fun _ => fun
  | [d1, d2] => { results := [.lit (.bool true)], args := [d1, d2] }
  | _ => none }
def fnMulRow : OpenClaim := { program := "ytddddjdcnlidfaadoor", sum := "dd43e25271b06bcfb93619d4b8727f830b83d4f3a3fcdbb896e8a1989a6fbc70", func := "given.example/pub-budwood/laws.FnMul", spec := "fnMul", unfollowed := true, recurses := true, named := ["strconv.ErrSyntax", "strconv.ErrRange", "internal/strconv.uint64pow10", "math/bits.deBruijn32tab", "math/bits.deBruijn64tab"], apart := false, laid := [("math/bits.deBruijn32tab", laid_math_bits_deBruijn32tab), ("math/bits.deBruijn64tab", laid_math_bits_deBruijn64tab), ("internal/strconv.uint64pow10", laid_internal_strconv_uint64pow10), ("strconv.ErrRange", laid_strconv_ErrRange), ("strconv.ErrSyntax", laid_strconv_ErrSyntax)] }
def FnMulSaid : Prop := fnMulRow.holds Tryd.pinned (OpenSpec.ofChange fnMulSpec)

/-- ITS FALSE NEIGHBOUR: 'it returns false'. Refute it at one input. -/
def fnMulWrong : ChangeSpec := { name := "fnMul", fn := fun _ => fun
  | [d1, d2] => { results := [.lit (.bool false)], args := [d1, d2] }
  | _ => none }
def FnMulWrongFalsely : Prop := fnMulRow.holds Tryd.pinned (OpenSpec.ofChange fnMulWrong)

/-- 'laws.FnAdd': WHATEVER THE INPUT: true; the input reads as it did. -/
def fnAddSpec : ChangeSpec := { name := "fnAdd", fn := fun _ => fun
  | [d1, d2] => { results := [.lit (.bool true)], args := [d1, d2] }
  | _ => none }
def fnAddRow : OpenClaim := { program := "ytddddjdcnlidfaadoor", sum := "dd43e25271b06bcfb93619d4b8727f830b83d4f3a3fcdbb896e8a1989a6fbc70", func := "given.example/pub-budwood/laws.FnAdd", spec := "fnAdd", unfollowed := true, recurses := true, named := ["strconv.ErrSyntax", "strconv.ErrRange", "internal/strconv.uint64pow10", "math/bits.deBruijn32tab", "math/bits.deBruijn64tab"], apart := false, laid := [("math/bits.deBruijn32tab", laid_math_bits_deBruijn32tab), ("math/bits.deBruijn64tab", laid_math_bits_deBruijn64tab), ("internal/strconv.uint64pow10", laid_internal_strconv_uint64pow10), ("strconv.ErrRange", laid_strconv_ErrRange), ("strconv.ErrSyntax", laid_strconv_ErrSyntax)] }
def FnAddSaid : Prop := fnAddRow.holds Tryd.pinned (OpenSpec.ofChange fnAddSpec)

/-- ITS FALSE NEIGHBOUR: 'it returns false'. Refute it at one input. -/
def fnAddWrong : ChangeSpec := { name := "fnAdd", fn := fun _ => fun
  | [d1, d2] => { results := [.lit (.bool false)], args := [d1, d2] }
  | _ => none }
def FnAddWrongFalsely : Prop := fnAddRow.holds Tryd.pinned (OpenSpec.ofChange fnAddWrong)

/-- 'laws.FnMax': WHATEVER THE INPUT: true; the input reads as it did. -/
def fnMaxSpec : ChangeSpec := { name := "fnMax", fn := fun _ => fun
  | [d1, d2] => { results := [.lit (.bool true)], args := [d1, d2] }
  | _ => none }
def fnMaxRow : OpenClaim := { program := "ytddddjdcnlidfaadoor", sum := "dd43e25271b06bcfb93619d4b8727f830b83d4f3a3fcdbb896e8a1989a6fbc70", func := "given.example/pub-budwood/laws.FnMax", spec := "fnMax", unfollowed := true, recurses := true, named := ["strconv.ErrSyntax", "strconv.ErrRange", "internal/strconv.uint64pow10", "math/bits.deBruijn32tab", "math/bits.deBruijn64tab"], apart := false, laid := [("math/bits.deBruijn32tab", laid_math_bits_deBruijn32tab), ("math/bits.deBruijn64tab", laid_math_bits_deBruijn64tab), ("internal/strconv.uint64pow10", laid_internal_strconv_uint64pow10), ("strconv.ErrRange", laid_strconv_ErrRange), ("strconv.ErrSyntax", laid_strconv_ErrSyntax)] }
def FnMaxSaid : Prop := fnMaxRow.holds Tryd.pinned (OpenSpec.ofChange fnMaxSpec)

/-- ITS FALSE NEIGHBOUR: 'it returns false'. Refute it at one input. -/
def fnMaxWrong : ChangeSpec := { name := "fnMax", fn := fun _ => fun
  | [d1, d2] => { results := [.lit (.bool false)], args := [d1, d2] }
  | _ => none }
def FnMaxWrongFalsely : Prop := fnMaxRow.holds Tryd.pinned (OpenSpec.ofChange fnMaxWrong)

/-- 'laws.FnCastText': WHATEVER THE INPUT: true; the input reads as it did. -/
def fnCastTextSpec : ChangeSpec := { name := "fnCastText", fn := fun _ => fun
  | [d1, d2, d3] => { results := [.lit (.bool true)], args := [d1, d2, d3] }
  | _ => none }
def fnCastTextRow : OpenClaim := { program := "ytddddjdcnlidfaadoor", sum := "dd43e25271b06bcfb93619d4b8727f830b83d4f3a3fcdbb896e8a1989a6fbc70", func := "given.example/pub-budwood/laws.FnCastText", spec := "fnCastText", unfollowed := true, recurses := true, named := ["strconv.ErrSyntax", "strconv.ErrRange", "internal/strconv.uint64pow10", "math/bits.deBruijn32tab", "math/bits.deBruijn64tab"], apart := false, laid := [("math/bits.deBruijn32tab", laid_math_bits_deBruijn32tab), ("math/bits.deBruijn64tab", laid_math_bits_deBruijn64tab), ("internal/strconv.uint64pow10", laid_internal_strconv_uint64pow10), ("strconv.ErrRange", laid_strconv_ErrRange), ("strconv.ErrSyntax", laid_strconv_ErrSyntax)] }
def FnCastTextSaid : Prop := fnCastTextRow.holds Tryd.pinned (OpenSpec.ofChange fnCastTextSpec)

/-- ITS FALSE NEIGHBOUR: 'it returns false'. Refute it at one input. -/
def fnCastTextWrong : ChangeSpec := { name := "fnCastText", fn := fun _ => fun
  | [d1, d2, d3] => { results := [.lit (.bool false)], args := [d1, d2, d3] }
  | _ => none }
def FnCastTextWrongFalsely : Prop := fnCastTextRow.holds Tryd.pinned (OpenSpec.ofChange fnCastTextWrong)

/- THE SECOND FORM. 'bulk': how many values and letters a reading holds, each counted each time it is reached (what is shared counts as often as it is met; a slice's spare places count too). A statement '..UptoSaid' is the law's where the arguments, and the package variables that the reading takes, are together of bulk at most 1048576: NARROWER than '..Said'. Prove '..Said' where nothing that the law and all that it calls make is longer than what came in: it says more and counts as full. Else prove '..UptoSaid'. A law counts once. -/
mutual
def uptoBulk {H : Type} : DataW H → Nat
  | .lit (.string bytes) => bytes.length + 1
  | .lit _ => 1
  | .nil => 1
  | .ptr d => uptoBulk d + 1
  | .slice elems spare => uptoBulkAll elems + uptoBulkAll spare + 1
  | .agg parts => uptoBulkAll parts + 1
  | .iface _ d => uptoBulk d + 1
  | .map entries => uptoBulkEntries entries + 1
  | .held _ => 1
def uptoBulkAll {H : Type} : List (DataW H) → Nat
  | [] => 0
  | d :: r => uptoBulk d + uptoBulkAll r
def uptoBulkEntries {H : Type} : List (Lit × DataW H) → Nat
  | [] => 0
  | x :: r => uptoBulkEntry x + uptoBulkEntries r
def uptoBulkEntry {H : Type} : Lit × DataW H → Nat
  | (.string bytes, d) => bytes.length + uptoBulk d + 1
  | (_, d) => uptoBulk d + 1
 end
def uptoSmall : (H : Type) → List (DataW H) → Bool := fun _ ds => decide (uptoBulkAll ds ≤ 1048576)
def OpenSpec.upto (s : _root_.Go.ChangeSpec) : _root_.Go.OpenSpec := { _root_.Go.OpenSpec.ofChange s with cond := some uptoSmall }

/-- 'laws.FnSeqUntil', WHERE WHAT IT READS IS OF BULK AT MOST 1048576: true; the input reads as it did. -/
def fnSeqUntilUptoRow : OpenClaim := { program := "ytddddjdcnlidfaadoor", sum := "dd43e25271b06bcfb93619d4b8727f830b83d4f3a3fcdbb896e8a1989a6fbc70", func := "given.example/pub-budwood/laws.FnSeqUntil", spec := "fnSeqUntil", inPlace := ["internal/abi.NoEscape", "internal/bytealg.MakeNoZero"], named := ["internal/strconv.uint64pow10", "math/bits.deBruijn32tab", "math/bits.deBruijn64tab"], apart := false, laid := [("math/bits.deBruijn32tab", laid_math_bits_deBruijn32tab), ("math/bits.deBruijn64tab", laid_math_bits_deBruijn64tab), ("internal/strconv.uint64pow10", laid_internal_strconv_uint64pow10)], narrowed := true }
def FnSeqUntilUptoSaid : Prop := fnSeqUntilUptoRow.holds Tryd.pinned (OpenSpec.upto fnSeqUntilSpec)

/-- 'laws.FnDurationRound', WHERE WHAT IT READS IS OF BULK AT MOST 1048576: true; the input reads as it did. -/
def fnDurationRoundUptoRow : OpenClaim := { program := "ytddddjdcnlidfaadoor", sum := "dd43e25271b06bcfb93619d4b8727f830b83d4f3a3fcdbb896e8a1989a6fbc70", func := "given.example/pub-budwood/laws.FnDurationRound", spec := "fnDurationRound", named := ["internal/strconv.uint64pow10", "math/bits.deBruijn32tab", "math/bits.deBruijn64tab", "time.unitMap", "time.errLeadingInt"], apart := false, laid := [("math/bits.deBruijn32tab", laid_math_bits_deBruijn32tab), ("math/bits.deBruijn64tab", laid_math_bits_deBruijn64tab), ("internal/strconv.uint64pow10", laid_internal_strconv_uint64pow10), ("time.errLeadingInt", laid_time_errLeadingInt), ("time.unitMap", laid_time_unitMap)], narrowed := true }
def FnDurationRoundUptoSaid : Prop := fnDurationRoundUptoRow.holds Tryd.pinned (OpenSpec.upto fnDurationRoundSpec)

/-- 'laws.FnAtoi', WHERE WHAT IT READS IS OF BULK AT MOST 1048576: true; the input reads as it did. -/
def fnAtoiUptoRow : OpenClaim := { program := "ytddddjdcnlidfaadoor", sum := "dd43e25271b06bcfb93619d4b8727f830b83d4f3a3fcdbb896e8a1989a6fbc70", func := "given.example/pub-budwood/laws.FnAtoi", spec := "fnAtoi", named := ["strconv.ErrSyntax", "strconv.ErrRange", "internal/strconv.uint64pow10", "math/bits.deBruijn32tab", "math/bits.deBruijn64tab"], apart := false, laid := [("math/bits.deBruijn32tab", laid_math_bits_deBruijn32tab), ("math/bits.deBruijn64tab", laid_math_bits_deBruijn64tab), ("internal/strconv.uint64pow10", laid_internal_strconv_uint64pow10), ("strconv.ErrRange", laid_strconv_ErrRange), ("strconv.ErrSyntax", laid_strconv_ErrSyntax)], narrowed := true }
def FnAtoiUptoSaid : Prop := fnAtoiUptoRow.holds Tryd.pinned (OpenSpec.upto fnAtoiSpec)

/-- 'laws.FnMul', WHERE WHAT IT READS IS OF BULK AT MOST 1048576: true; the input reads as it did. -/
def fnMulUptoRow : OpenClaim := { program := "ytddddjdcnlidfaadoor", sum := "dd43e25271b06bcfb93619d4b8727f830b83d4f3a3fcdbb896e8a1989a6fbc70", func := "given.example/pub-budwood/laws.FnMul", spec := "fnMul", unfollowed := true, recurses := true, named := ["strconv.ErrSyntax", "strconv.ErrRange", "internal/strconv.uint64pow10", "math/bits.deBruijn32tab", "math/bits.deBruijn64tab"], apart := false, laid := [("math/bits.deBruijn32tab", laid_math_bits_deBruijn32tab), ("math/bits.deBruijn64tab", laid_math_bits_deBruijn64tab), ("internal/strconv.uint64pow10", laid_internal_strconv_uint64pow10), ("strconv.ErrRange", laid_strconv_ErrRange), ("strconv.ErrSyntax", laid_strconv_ErrSyntax)], narrowed := true }
def FnMulUptoSaid : Prop := fnMulUptoRow.holds Tryd.pinned (OpenSpec.upto fnMulSpec)

/-- 'laws.FnAdd', WHERE WHAT IT READS IS OF BULK AT MOST 1048576: true; the input reads as it did. -/
def fnAddUptoRow : OpenClaim := { program := "ytddddjdcnlidfaadoor", sum := "dd43e25271b06bcfb93619d4b8727f830b83d4f3a3fcdbb896e8a1989a6fbc70", func := "given.example/pub-budwood/laws.FnAdd", spec := "fnAdd", unfollowed := true, recurses := true, named := ["strconv.ErrSyntax", "strconv.ErrRange", "internal/strconv.uint64pow10", "math/bits.deBruijn32tab", "math/bits.deBruijn64tab"], apart := false, laid := [("math/bits.deBruijn32tab", laid_math_bits_deBruijn32tab), ("math/bits.deBruijn64tab", laid_math_bits_deBruijn64tab), ("internal/strconv.uint64pow10", laid_internal_strconv_uint64pow10), ("strconv.ErrRange", laid_strconv_ErrRange), ("strconv.ErrSyntax", laid_strconv_ErrSyntax)], narrowed := true }
def FnAddUptoSaid : Prop := fnAddUptoRow.holds Tryd.pinned (OpenSpec.upto fnAddSpec)

/-- 'laws.FnMax', WHERE WHAT IT READS IS OF BULK AT MOST 1048576: true; the input reads as it did. -/
def fnMaxUptoRow : OpenClaim := { program := "ytddddjdcnlidfaadoor", sum := "dd43e25271b06bcfb93619d4b8727f830b83d4f3a3fcdbb896e8a1989a6fbc70", func := "given.example/pub-budwood/laws.FnMax", spec := "fnMax", unfollowed := true, recurses := true, named := ["strconv.ErrSyntax", "strconv.ErrRange", "internal/strconv.uint64pow10", "math/bits.deBruijn32tab", "math/bits.deBruijn64tab"], apart := false, laid := [("math/bits.deBruijn32tab", laid_math_bits_deBruijn32tab), ("math/bits.deBruijn64tab", laid_math_bits_deBruijn64tab), ("internal/strconv.uint64pow10", laid_internal_strconv_uint64pow10), ("strconv.ErrRange", laid_strconv_ErrRange), ("strconv.ErrSyntax", laid_strconv_ErrSyntax)], narrowed := true }
def FnMaxUptoSaid : Prop := fnMaxUptoRow.holds Tryd.pinned (OpenSpec.upto fnMaxSpec)

/-- 'laws.FnCastText', WHERE WHAT IT READS IS OF BULK AT MOST 1048576: true; the input reads as it did. -/
def fnCastTextUptoRow : OpenClaim := { program := "ytddddjdcnlidfaadoor", sum := "dd43e25271b06bcfb93619d4b8727f830b83d4f3a3fcdbb896e8a1989a6fbc70", func := "given.example/pub-budwood/laws.FnCastText", spec := "fnCastText", unfollowed := true, recurses := true, named := ["strconv.ErrSyntax", "strconv.ErrRange", "internal/strconv.uint64pow10", "math/bits.deBruijn32tab", "math/bits.deBruijn64tab"], apart := false, laid := [("math/bits.deBruijn32tab", laid_math_bits_deBruijn32tab), ("math/bits.deBruijn64tab", laid_math_bits_deBruijn64tab), ("internal/strconv.uint64pow10", laid_internal_strconv_uint64pow10), ("strconv.ErrRange", laid_strconv_ErrRange), ("strconv.ErrSyntax", laid_strconv_ErrSyntax)], narrowed := true }
def FnCastTextUptoSaid : Prop := fnCastTextUptoRow.holds Tryd.pinned (OpenSpec.upto fnCastTextSpec)

end Rows
end Go.Proofs.YtddddjdcnlidfaaDoor
