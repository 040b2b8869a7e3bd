/-
  No cell of these rows narrows 'for every input' (looked for: loops, veiled, ifaces, maps, wideKeys, modest, calm, conditions, laid).
  DERIVED. THE GIVEN ROWS OF THIS SEAT. 9 by the template 'for every input the law returns true; each argument reads behind the call as it read before'; 0 by the template 'total and deterministic' (their statements: YtjpocldnibmopaaTotals.lean).
  GIVEN WITH THE SEED: the statements are not yours to turn. If you find one false, say at which input.
  Laid BY PROGRAM, IN A SANDBOX (cutbox-rows.mjs): the forced cells as the released guide's own fill.sh prints them over the translation 442cc6c63bfd441b… (all of the seat's roots in one cut). By AI agents, Wed Nov 11 2026. No macro, syntax, notation, axiom, sorry.
-/
import Derived.Test.YtjpocldnibmopaaChecked
import GoSem.Claim
import GoSem.ClaimJoined
import GoSem.ClaimMapViews
import Derived.JoinedTies
import Derived.KernelRfl
namespace Go.Proofs.Ytjpocldnibmopaa
/- THE CELL 'sum', in the pinned program and in every row, IS THE sha256 OF THE DUMP (.gsa) THAT YtjpocldnibmopaaProg.lean LOADS. Nothing in Lean hashes anything: it is a label: what it is worth is what the hold of that sum in a sandbox is worth. -/
noncomputable def Try.pinned : Pinned := { name := "ytjpocldnibmopaa", sum := "442cc6c63bfd441b2939f1ca9eb5669f256a405cdfd372dc64d4fb4257aa2957", checked := Try.checked }
namespace Rows
def none {H : Type} : Left H := { results := [], args := [] }

/-- 'laws.FnPlural': WHATEVER THE INPUT: true; the input reads as it did. -/
def fnPluralSpec : ChangeSpec := { name := "fnPlural", fn := fun _ => fun
  | [d1, d2, d3] => { results := [.lit (.bool true)], args := [d1, d2, d3] }
  | _ => none }
def fnPluralRow : OpenClaim := { program := "ytjpocldnibmopaa", sum := "442cc6c63bfd441b2939f1ca9eb5669f256a405cdfd372dc64d4fb4257aa2957", func := "given.example/pub-budwood/laws.FnPlural", spec := "fnPlural", apart := false }
def FnPluralSaid : Prop := fnPluralRow.holds Try.pinned (OpenSpec.ofChange fnPluralSpec)

/-- ITS FALSE NEIGHBOUR: 'it returns false'. Refute it at one input. -/
def fnPluralWrong : ChangeSpec := { name := "fnPlural", fn := fun _ => fun
  | [d1, d2, d3] => { results := [.lit (.bool false)], args := [d1, d2, d3] }
  | _ => none }
def FnPluralWrongFalsely : Prop := fnPluralRow.holds Try.pinned (OpenSpec.ofChange fnPluralWrong)

/-- 'laws.FnTrimSuffix': WHATEVER THE INPUT: true; the input reads as it did. -/
def fnTrimSuffixSpec : ChangeSpec := { name := "fnTrimSuffix", fn := fun _ => fun
  | [d1, d2] => { results := [.lit (.bool true)], args := [d1, d2] }
  | _ => none }
def fnTrimSuffixRow : OpenClaim := { program := "ytjpocldnibmopaa", sum := "442cc6c63bfd441b2939f1ca9eb5669f256a405cdfd372dc64d4fb4257aa2957", func := "given.example/pub-budwood/laws.FnTrimSuffix", spec := "fnTrimSuffix", apart := false }
def FnTrimSuffixSaid : Prop := fnTrimSuffixRow.holds Try.pinned (OpenSpec.ofChange fnTrimSuffixSpec)

/-- ITS FALSE NEIGHBOUR: 'it returns false'. Refute it at one input. -/
def fnTrimSuffixWrong : ChangeSpec := { name := "fnTrimSuffix", fn := fun _ => fun
  | [d1, d2] => { results := [.lit (.bool false)], args := [d1, d2] }
  | _ => none }
def FnTrimSuffixWrongFalsely : Prop := fnTrimSuffixRow.holds Try.pinned (OpenSpec.ofChange fnTrimSuffixWrong)

/-- 'laws.FnSubstr': WHATEVER THE INPUT: true; the input reads as it did. -/
def fnSubstrSpec : ChangeSpec := { name := "fnSubstr", fn := fun _ => fun
  | [d1, d2, d3] => { results := [.lit (.bool true)], args := [d1, d2, d3] }
  | _ => none }
def fnSubstrRow : OpenClaim := { program := "ytjpocldnibmopaa", sum := "442cc6c63bfd441b2939f1ca9eb5669f256a405cdfd372dc64d4fb4257aa2957", func := "given.example/pub-budwood/laws.FnSubstr", spec := "fnSubstr", unfollowed := true, recurses := true, apart := false }
def FnSubstrSaid : Prop := fnSubstrRow.holds Try.pinned (OpenSpec.ofChange fnSubstrSpec)

/-- ITS FALSE NEIGHBOUR: 'it returns false'. Refute it at one input. -/
def fnSubstrWrong : ChangeSpec := { name := "fnSubstr", fn := fun _ => fun
  | [d1, d2, d3] => { results := [.lit (.bool false)], args := [d1, d2, d3] }
  | _ => none }
def FnSubstrWrongFalsely : Prop := fnSubstrRow.holds Try.pinned (OpenSpec.ofChange fnSubstrWrong)

/-- 'laws.FnTrunc': WHATEVER THE INPUT: true; the input reads as it did. -/
def fnTruncSpec : ChangeSpec := { name := "fnTrunc", fn := fun _ => fun
  | [d1, d2] => { results := [.lit (.bool true)], args := [d1, d2] }
  | _ => none }
def fnTruncRow : OpenClaim := { program := "ytjpocldnibmopaa", sum := "442cc6c63bfd441b2939f1ca9eb5669f256a405cdfd372dc64d4fb4257aa2957", func := "given.example/pub-budwood/laws.FnTrunc", spec := "fnTrunc", unfollowed := true, recurses := true, apart := false }
def FnTruncSaid : Prop := fnTruncRow.holds Try.pinned (OpenSpec.ofChange fnTruncSpec)

/-- ITS FALSE NEIGHBOUR: 'it returns false'. Refute it at one input. -/
def fnTruncWrong : ChangeSpec := { name := "fnTrunc", fn := fun _ => fun
  | [d1, d2] => { results := [.lit (.bool false)], args := [d1, d2] }
  | _ => none }
def FnTruncWrongFalsely : Prop := fnTruncRow.holds Try.pinned (OpenSpec.ofChange fnTruncWrong)

/-- 'laws.FnFoundAt': WHATEVER THE INPUT: true; the input reads as it did. -/
def fnFoundAtSpec : ChangeSpec := { name := "fnFoundAt", fn := fun _ => fun
  | [d1, d2, d3] => { results := [.lit (.bool true)], args := [d1, d2, d3] }
  | _ => none }
def fnFoundAtRow : OpenClaim := { program := "ytjpocldnibmopaa", sum := "442cc6c63bfd441b2939f1ca9eb5669f256a405cdfd372dc64d4fb4257aa2957", func := "given.example/pub-budwood/laws.FnFoundAt", spec := "fnFoundAt", apart := false }
def FnFoundAtSaid : Prop := fnFoundAtRow.holds Try.pinned (OpenSpec.ofChange fnFoundAtSpec)

/-- ITS FALSE NEIGHBOUR: 'it returns false'. Refute it at one input. -/
def fnFoundAtWrong : ChangeSpec := { name := "fnFoundAt", fn := fun _ => fun
  | [d1, d2, d3] => { results := [.lit (.bool false)], args := [d1, d2, d3] }
  | _ => none }
def FnFoundAtWrongFalsely : Prop := fnFoundAtRow.holds Try.pinned (OpenSpec.ofChange fnFoundAtWrong)

/-- 'laws.FnUntil': WHATEVER THE INPUT: true; the input reads as it did. -/
def fnUntilSpec : ChangeSpec := { name := "fnUntil", fn := fun _ => fun
  | [d1, d2, d3, d4] => { results := [.lit (.bool true)], args := [d1, d2, d3, d4] }
  | _ => none }
def fnUntilRow : OpenClaim := { program := "ytjpocldnibmopaa", sum := "442cc6c63bfd441b2939f1ca9eb5669f256a405cdfd372dc64d4fb4257aa2957", func := "given.example/pub-budwood/laws.FnUntil", spec := "fnUntil", apart := false }
def FnUntilSaid : Prop := fnUntilRow.holds Try.pinned (OpenSpec.ofChange fnUntilSpec)

/-- ITS FALSE NEIGHBOUR: 'it returns false'. Refute it at one input. -/
def fnUntilWrong : ChangeSpec := { name := "fnUntil", fn := fun _ => fun
  | [d1, d2, d3, d4] => { results := [.lit (.bool false)], args := [d1, d2, d3, d4] }
  | _ => none }
def FnUntilWrongFalsely : Prop := fnUntilRow.holds Try.pinned (OpenSpec.ofChange fnUntilWrong)

/-- 'laws.FnAbbrevBoth': WHATEVER THE INPUT: true; the input reads as it did. -/
def fnAbbrevBothSpec : ChangeSpec := { name := "fnAbbrevBoth", fn := fun _ => fun
  | [d1, d2, d3] => { results := [.lit (.bool true)], args := [d1, d2, d3] }
  | _ => none }
def fnAbbrevBothRow : OpenClaim := { program := "ytjpocldnibmopaa", sum := "442cc6c63bfd441b2939f1ca9eb5669f256a405cdfd372dc64d4fb4257aa2957", func := "given.example/pub-budwood/laws.FnAbbrevBoth", spec := "fnAbbrevBoth", recurses := true, apart := false }
def FnAbbrevBothSaid : Prop := fnAbbrevBothRow.holds Try.pinned (OpenSpec.ofChange fnAbbrevBothSpec)

/-- ITS FALSE NEIGHBOUR: 'it returns false'. Refute it at one input. -/
def fnAbbrevBothWrong : ChangeSpec := { name := "fnAbbrevBoth", fn := fun _ => fun
  | [d1, d2, d3] => { results := [.lit (.bool false)], args := [d1, d2, d3] }
  | _ => none }
def FnAbbrevBothWrongFalsely : Prop := fnAbbrevBothRow.holds Try.pinned (OpenSpec.ofChange fnAbbrevBothWrong)

/-- 'laws.FnPartition': WHATEVER THE INPUT: true; the input reads as it did. -/
def fnPartitionSpec : ChangeSpec := { name := "fnPartition", fn := fun _ => fun
  | [d1, d2] => { results := [.lit (.bool true)], args := [d1, d2] }
  | _ => none }
def fnPartitionRow : OpenClaim := { program := "ytjpocldnibmopaa", sum := "442cc6c63bfd441b2939f1ca9eb5669f256a405cdfd372dc64d4fb4257aa2957", func := "given.example/pub-budwood/laws.FnPartition", spec := "fnPartition", apart := false }
def FnPartitionSaid : Prop := fnPartitionRow.holds Try.pinned (OpenSpec.ofChange fnPartitionSpec)

/-- ITS FALSE NEIGHBOUR: 'it returns false'. Refute it at one input. -/
def fnPartitionWrong : ChangeSpec := { name := "fnPartition", fn := fun _ => fun
  | [d1, d2] => { results := [.lit (.bool false)], args := [d1, d2] }
  | _ => none }
def FnPartitionWrongFalsely : Prop := fnPartitionRow.holds Try.pinned (OpenSpec.ofChange fnPartitionWrong)

/-- 'laws.FnClean': WHATEVER THE INPUT: true; the input reads as it did. -/
def fnCleanSpec : ChangeSpec := { name := "fnClean", fn := fun _ => fun
  | [d] => { results := [.lit (.bool true)], args := [d] }
  | _ => none }
def fnCleanRow : OpenClaim := { program := "ytjpocldnibmopaa", sum := "442cc6c63bfd441b2939f1ca9eb5669f256a405cdfd372dc64d4fb4257aa2957", func := "given.example/pub-budwood/laws.FnClean", spec := "fnClean", apart := false }
def FnCleanSaid : Prop := fnCleanRow.holds Try.pinned (OpenSpec.ofChange fnCleanSpec)

/-- ITS FALSE NEIGHBOUR: 'it returns false'. Refute it at one input. -/
def fnCleanWrong : ChangeSpec := { name := "fnClean", fn := fun _ => fun
  | [d] => { results := [.lit (.bool false)], args := [d] }
  | _ => none }
def FnCleanWrongFalsely : Prop := fnCleanRow.holds Try.pinned (OpenSpec.ofChange fnCleanWrong)

/- THE SECOND FORM. 'bulk': how many values and letters a reading holds, each counted each time it is reached (what is shared counts as often as it is met; a slice's spare places count too). A statement '..UptoSaid' is the law's where the arguments, and the package variables that the reading takes, are together of bulk at most 1048576: NARROWER than '..Said'. Prove '..Said' where nothing that the law and all that it calls make is longer than what came in: it says more and counts as full. Else prove '..UptoSaid'. A law counts once. -/
mutual
def uptoBulk {H : Type} : DataW H → Nat
  | .lit (.string bytes) => bytes.length + 1
  | .lit _ => 1
  | .nil => 1
  | .ptr d => uptoBulk d + 1
  | .slice elems spare => uptoBulkAll elems + uptoBulkAll spare + 1
  | .agg parts => uptoBulkAll parts + 1
  | .iface _ d => uptoBulk d + 1
  | .map entries => uptoBulkEntries entries + 1
  | .held _ => 1
def uptoBulkAll {H : Type} : List (DataW H) → Nat
  | [] => 0
  | d :: r => uptoBulk d + uptoBulkAll r
def uptoBulkEntries {H : Type} : List (Lit × DataW H) → Nat
  | [] => 0
  | x :: r => uptoBulkEntry x + uptoBulkEntries r
def uptoBulkEntry {H : Type} : Lit × DataW H → Nat
  | (.string bytes, d) => bytes.length + uptoBulk d + 1
  | (_, d) => uptoBulk d + 1
 end
def uptoSmall : (H : Type) → List (DataW H) → Bool := fun _ ds => decide (uptoBulkAll ds ≤ 1048576)
def OpenSpec.upto (s : _root_.Go.ChangeSpec) : _root_.Go.OpenSpec := { _root_.Go.OpenSpec.ofChange s with cond := some uptoSmall }

/-- 'laws.FnPlural', WHERE WHAT IT READS IS OF BULK AT MOST 1048576: true; the input reads as it did. -/
def fnPluralUptoRow : OpenClaim := { program := "ytjpocldnibmopaa", sum := "442cc6c63bfd441b2939f1ca9eb5669f256a405cdfd372dc64d4fb4257aa2957", func := "given.example/pub-budwood/laws.FnPlural", spec := "fnPlural", apart := false, narrowed := true }
def FnPluralUptoSaid : Prop := fnPluralUptoRow.holds Try.pinned (OpenSpec.upto fnPluralSpec)

/-- 'laws.FnTrimSuffix', WHERE WHAT IT READS IS OF BULK AT MOST 1048576: true; the input reads as it did. -/
def fnTrimSuffixUptoRow : OpenClaim := { program := "ytjpocldnibmopaa", sum := "442cc6c63bfd441b2939f1ca9eb5669f256a405cdfd372dc64d4fb4257aa2957", func := "given.example/pub-budwood/laws.FnTrimSuffix", spec := "fnTrimSuffix", apart := false, narrowed := true }
def FnTrimSuffixUptoSaid : Prop := fnTrimSuffixUptoRow.holds Try.pinned (OpenSpec.upto fnTrimSuffixSpec)

/-- 'laws.FnSubstr', WHERE WHAT IT READS IS OF BULK AT MOST 1048576: true; the input reads as it did. -/
def fnSubstrUptoRow : OpenClaim := { program := "ytjpocldnibmopaa", sum := "442cc6c63bfd441b2939f1ca9eb5669f256a405cdfd372dc64d4fb4257aa2957", func := "given.example/pub-budwood/laws.FnSubstr", spec := "fnSubstr", unfollowed := true, recurses := true, apart := false, narrowed := true }
def FnSubstrUptoSaid : Prop := fnSubstrUptoRow.holds Try.pinned (OpenSpec.upto fnSubstrSpec)

/-- 'laws.FnTrunc', WHERE WHAT IT READS IS OF BULK AT MOST 1048576: true; the input reads as it did. -/
def fnTruncUptoRow : OpenClaim := { program := "ytjpocldnibmopaa", sum := "442cc6c63bfd441b2939f1ca9eb5669f256a405cdfd372dc64d4fb4257aa2957", func := "given.example/pub-budwood/laws.FnTrunc", spec := "fnTrunc", unfollowed := true, recurses := true, apart := false, narrowed := true }
def FnTruncUptoSaid : Prop := fnTruncUptoRow.holds Try.pinned (OpenSpec.upto fnTruncSpec)

/-- 'laws.FnFoundAt', WHERE WHAT IT READS IS OF BULK AT MOST 1048576: true; the input reads as it did. -/
def fnFoundAtUptoRow : OpenClaim := { program := "ytjpocldnibmopaa", sum := "442cc6c63bfd441b2939f1ca9eb5669f256a405cdfd372dc64d4fb4257aa2957", func := "given.example/pub-budwood/laws.FnFoundAt", spec := "fnFoundAt", apart := false, narrowed := true }
def FnFoundAtUptoSaid : Prop := fnFoundAtUptoRow.holds Try.pinned (OpenSpec.upto fnFoundAtSpec)

/-- 'laws.FnUntil', WHERE WHAT IT READS IS OF BULK AT MOST 1048576: true; the input reads as it did. -/
def fnUntilUptoRow : OpenClaim := { program := "ytjpocldnibmopaa", sum := "442cc6c63bfd441b2939f1ca9eb5669f256a405cdfd372dc64d4fb4257aa2957", func := "given.example/pub-budwood/laws.FnUntil", spec := "fnUntil", apart := false, narrowed := true }
def FnUntilUptoSaid : Prop := fnUntilUptoRow.holds Try.pinned (OpenSpec.upto fnUntilSpec)

/-- 'laws.FnAbbrevBoth', WHERE WHAT IT READS IS OF BULK AT MOST 1048576: true; the input reads as it did. -/
def fnAbbrevBothUptoRow : OpenClaim := { program := "ytjpocldnibmopaa", sum := "442cc6c63bfd441b2939f1ca9eb5669f256a405cdfd372dc64d4fb4257aa2957", func := "given.example/pub-budwood/laws.FnAbbrevBoth", spec := "fnAbbrevBoth", recurses := true, apart := false, narrowed := true }
def FnAbbrevBothUptoSaid : Prop := fnAbbrevBothUptoRow.holds Try.pinned (OpenSpec.upto fnAbbrevBothSpec)

/-- 'laws.FnPartition', WHERE WHAT IT READS IS OF BULK AT MOST 1048576: true; the input reads as it did. -/
def fnPartitionUptoRow : OpenClaim := { program := "ytjpocldnibmopaa", sum := "442cc6c63bfd441b2939f1ca9eb5669f256a405cdfd372dc64d4fb4257aa2957", func := "given.example/pub-budwood/laws.FnPartition", spec := "fnPartition", apart := false, narrowed := true }
def FnPartitionUptoSaid : Prop := fnPartitionUptoRow.holds Try.pinned (OpenSpec.upto fnPartitionSpec)

/-- 'laws.FnClean', WHERE WHAT IT READS IS OF BULK AT MOST 1048576: true; the input reads as it did. -/
def fnCleanUptoRow : OpenClaim := { program := "ytjpocldnibmopaa", sum := "442cc6c63bfd441b2939f1ca9eb5669f256a405cdfd372dc64d4fb4257aa2957", func := "given.example/pub-budwood/laws.FnClean", spec := "fnClean", apart := false, narrowed := true }
def FnCleanUptoSaid : Prop := fnCleanUptoRow.holds Try.pinned (OpenSpec.upto fnCleanSpec)

end Rows
end Go.Proofs.Ytjpocldnibmopaa
