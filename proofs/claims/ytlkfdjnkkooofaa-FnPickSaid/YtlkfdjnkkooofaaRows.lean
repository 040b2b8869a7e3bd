/-
  NARROWER THAN 'FOR EVERY INPUT', by the rows' own cells (each row's printed sentence says how): FnKindOf: loops · FnHas: loops · FnSet: loops · FnPick: loops · FnConcat: loops · FnDig: loops · FnCoalesce: loops · FnUniq: loops · FnEnds: loops.
  DERIVED. THE GIVEN ROWS OF THIS SEAT. 9 by the template 'for every input the law returns true; each argument reads behind the call as it read before'; 0 by the template 'total and deterministic' (their statements: YtlkfdjnkkooofaaTotals.lean).
  GIVEN WITH THE SEED: the statements are not yours to turn. If you find one false, say at which input.
  Laid BY PROGRAM, IN A SANDBOX (cutbox-rows.mjs): the forced cells as the released guide's own fill.sh prints them over the translation 04be657d69c36d99… (all of the seat's roots in one cut). By AI agents, Wed Nov 11 2026. No macro, syntax, notation, axiom, sorry.
-/
import Derived.Test.YtlkfdjnkkooofaaChecked
import GoSem.Claim
import GoSem.ClaimJoined
import GoSem.ClaimMapViews
import Derived.JoinedTies
import Derived.KernelRfl
namespace Go.Proofs.Ytlkfdjnkkooofaa
/- THE CELL 'sum', in the pinned program and in every row, IS THE sha256 OF THE DUMP (.gsa) THAT YtlkfdjnkkooofaaProg.lean LOADS. Nothing in Lean hashes anything: it is a label: what it is worth is what the hold of that sum in a sandbox is worth. -/
noncomputable def Try.pinned : Pinned := { name := "ytlkfdjnkkooofaa", sum := "04be657d69c36d99a7b5c4d8c7022fc39535a4b520b59bfbe70321d860660dcc", checked := Try.checked }
namespace Rows
def none {H : Type} : Left H := { results := [], args := [] }

/-- 'laws.FnKindOf': WHATEVER THE INPUT: true; the input reads as it did. -/
def fnKindOfSpec : ChangeSpec := { name := "fnKindOf", fn := fun _ => fun
  | [d] => { results := [.lit (.bool true)], args := [d] }
  | _ => none }
def fnKindOfRow : OpenClaim := { program := "ytlkfdjnkkooofaa", sum := "04be657d69c36d99a7b5c4d8c7022fc39535a4b520b59bfbe70321d860660dcc", func := "given.example/pub-budwood/laws.FnKindOf", spec := "fnKindOf", recurses := true, loops := true, apart := false }
def FnKindOfSaid : Prop := fnKindOfRow.holds Try.pinned (OpenSpec.ofChange fnKindOfSpec)

/-- ITS FALSE NEIGHBOUR: 'it returns false'. Refute it at one input. -/
def fnKindOfWrong : ChangeSpec := { name := "fnKindOf", fn := fun _ => fun
  | [d] => { results := [.lit (.bool false)], args := [d] }
  | _ => none }
def FnKindOfWrongFalsely : Prop := fnKindOfRow.holds Try.pinned (OpenSpec.ofChange fnKindOfWrong)

/-- 'laws.FnHas': WHATEVER THE INPUT: true; the input reads as it did. -/
def fnHasSpec : ChangeSpec := { name := "fnHas", fn := fun _ => fun
  | [d1, d2] => { results := [.lit (.bool true)], args := [d1, d2] }
  | _ => none }
def fnHasRow : OpenClaim := { program := "ytlkfdjnkkooofaa", sum := "04be657d69c36d99a7b5c4d8c7022fc39535a4b520b59bfbe70321d860660dcc", func := "given.example/pub-budwood/laws.FnHas", spec := "fnHas", recurses := true, loops := true, apart := false }
def FnHasSaid : Prop := fnHasRow.holds Try.pinned (OpenSpec.ofChange fnHasSpec)

/-- ITS FALSE NEIGHBOUR: 'it returns false'. Refute it at one input. -/
def fnHasWrong : ChangeSpec := { name := "fnHas", fn := fun _ => fun
  | [d1, d2] => { results := [.lit (.bool false)], args := [d1, d2] }
  | _ => none }
def FnHasWrongFalsely : Prop := fnHasRow.holds Try.pinned (OpenSpec.ofChange fnHasWrong)

/-- 'laws.FnSet': WHATEVER THE INPUT: true; the input reads as it did. -/
def fnSetSpec : ChangeSpec := { name := "fnSet", fn := fun _ => fun
  | [d1, d2, d3] => { results := [.lit (.bool true)], args := [d1, d2, d3] }
  | _ => none }
def fnSetRow : OpenClaim := { program := "ytlkfdjnkkooofaa", sum := "04be657d69c36d99a7b5c4d8c7022fc39535a4b520b59bfbe70321d860660dcc", func := "given.example/pub-budwood/laws.FnSet", spec := "fnSet", recurses := true, loops := true, apart := false }
def FnSetSaid : Prop := fnSetRow.holds Try.pinned (OpenSpec.ofChange fnSetSpec)

/-- ITS FALSE NEIGHBOUR: 'it returns false'. Refute it at one input. -/
def fnSetWrong : ChangeSpec := { name := "fnSet", fn := fun _ => fun
  | [d1, d2, d3] => { results := [.lit (.bool false)], args := [d1, d2, d3] }
  | _ => none }
def FnSetWrongFalsely : Prop := fnSetRow.holds Try.pinned (OpenSpec.ofChange fnSetWrong)

/-- 'laws.FnPick': WHATEVER THE INPUT: true; the input reads as it did. -/
def fnPickSpec : ChangeSpec := { name := "fnPick", fn := fun _ => fun
  | [d1, d2] => { results := [.lit (.bool true)], args := [d1, d2] }
  | _ => none }
def fnPickRow : OpenClaim := { program := "ytlkfdjnkkooofaa", sum := "04be657d69c36d99a7b5c4d8c7022fc39535a4b520b59bfbe70321d860660dcc", func := "given.example/pub-budwood/laws.FnPick", spec := "fnPick", recurses := true, loops := true, apart := false }
def FnPickSaid : Prop := fnPickRow.holds Try.pinned (OpenSpec.ofChange fnPickSpec)

/-- ITS FALSE NEIGHBOUR: 'it returns false'. Refute it at one input. -/
def fnPickWrong : ChangeSpec := { name := "fnPick", fn := fun _ => fun
  | [d1, d2] => { results := [.lit (.bool false)], args := [d1, d2] }
  | _ => none }
def FnPickWrongFalsely : Prop := fnPickRow.holds Try.pinned (OpenSpec.ofChange fnPickWrong)

/-- 'laws.FnConcat': WHATEVER THE INPUT: true; the input reads as it did. -/
def fnConcatSpec : ChangeSpec := { name := "fnConcat", fn := fun _ => fun
  | [d] => { results := [.lit (.bool true)], args := [d] }
  | _ => none }
def fnConcatRow : OpenClaim := { program := "ytlkfdjnkkooofaa", sum := "04be657d69c36d99a7b5c4d8c7022fc39535a4b520b59bfbe70321d860660dcc", func := "given.example/pub-budwood/laws.FnConcat", spec := "fnConcat", recurses := true, loops := true, apart := false }
def FnConcatSaid : Prop := fnConcatRow.holds Try.pinned (OpenSpec.ofChange fnConcatSpec)

/-- ITS FALSE NEIGHBOUR: 'it returns false'. Refute it at one input. -/
def fnConcatWrong : ChangeSpec := { name := "fnConcat", fn := fun _ => fun
  | [d] => { results := [.lit (.bool false)], args := [d] }
  | _ => none }
def FnConcatWrongFalsely : Prop := fnConcatRow.holds Try.pinned (OpenSpec.ofChange fnConcatWrong)

/-- 'laws.FnDig': WHATEVER THE INPUT: true; the input reads as it did. -/
def fnDigSpec : ChangeSpec := { name := "fnDig", fn := fun _ => fun
  | [d1, d2, d3] => { results := [.lit (.bool true)], args := [d1, d2, d3] }
  | _ => none }
def fnDigRow : OpenClaim := { program := "ytlkfdjnkkooofaa", sum := "04be657d69c36d99a7b5c4d8c7022fc39535a4b520b59bfbe70321d860660dcc", func := "given.example/pub-budwood/laws.FnDig", spec := "fnDig", unfollowed := true, recurses := true, loops := true, apart := false }
def FnDigSaid : Prop := fnDigRow.holds Try.pinned (OpenSpec.ofChange fnDigSpec)

/-- ITS FALSE NEIGHBOUR: 'it returns false'. Refute it at one input. -/
def fnDigWrong : ChangeSpec := { name := "fnDig", fn := fun _ => fun
  | [d1, d2, d3] => { results := [.lit (.bool false)], args := [d1, d2, d3] }
  | _ => none }
def FnDigWrongFalsely : Prop := fnDigRow.holds Try.pinned (OpenSpec.ofChange fnDigWrong)

/-- 'laws.FnCoalesce': WHATEVER THE INPUT: true; the input reads as it did. -/
def fnCoalesceSpec : ChangeSpec := { name := "fnCoalesce", fn := fun _ => fun
  | [d] => { results := [.lit (.bool true)], args := [d] }
  | _ => none }
def fnCoalesceRow : OpenClaim := { program := "ytlkfdjnkkooofaa", sum := "04be657d69c36d99a7b5c4d8c7022fc39535a4b520b59bfbe70321d860660dcc", func := "given.example/pub-budwood/laws.FnCoalesce", spec := "fnCoalesce", recurses := true, loops := true, apart := false }
def FnCoalesceSaid : Prop := fnCoalesceRow.holds Try.pinned (OpenSpec.ofChange fnCoalesceSpec)

/-- ITS FALSE NEIGHBOUR: 'it returns false'. Refute it at one input. -/
def fnCoalesceWrong : ChangeSpec := { name := "fnCoalesce", fn := fun _ => fun
  | [d] => { results := [.lit (.bool false)], args := [d] }
  | _ => none }
def FnCoalesceWrongFalsely : Prop := fnCoalesceRow.holds Try.pinned (OpenSpec.ofChange fnCoalesceWrong)

/-- 'laws.FnUniq': WHATEVER THE INPUT: true; the input reads as it did. -/
def fnUniqSpec : ChangeSpec := { name := "fnUniq", fn := fun _ => fun
  | [d] => { results := [.lit (.bool true)], args := [d] }
  | _ => none }
def fnUniqRow : OpenClaim := { program := "ytlkfdjnkkooofaa", sum := "04be657d69c36d99a7b5c4d8c7022fc39535a4b520b59bfbe70321d860660dcc", func := "given.example/pub-budwood/laws.FnUniq", spec := "fnUniq", unfollowed := true, recurses := true, loops := true, apart := false }
def FnUniqSaid : Prop := fnUniqRow.holds Try.pinned (OpenSpec.ofChange fnUniqSpec)

/-- ITS FALSE NEIGHBOUR: 'it returns false'. Refute it at one input. -/
def fnUniqWrong : ChangeSpec := { name := "fnUniq", fn := fun _ => fun
  | [d] => { results := [.lit (.bool false)], args := [d] }
  | _ => none }
def FnUniqWrongFalsely : Prop := fnUniqRow.holds Try.pinned (OpenSpec.ofChange fnUniqWrong)

/-- 'laws.FnEnds': WHATEVER THE INPUT: true; the input reads as it did. -/
def fnEndsSpec : ChangeSpec := { name := "fnEnds", fn := fun _ => fun
  | [d] => { results := [.lit (.bool true)], args := [d] }
  | _ => none }
def fnEndsRow : OpenClaim := { program := "ytlkfdjnkkooofaa", sum := "04be657d69c36d99a7b5c4d8c7022fc39535a4b520b59bfbe70321d860660dcc", func := "given.example/pub-budwood/laws.FnEnds", spec := "fnEnds", unfollowed := true, recurses := true, loops := true, apart := false }
def FnEndsSaid : Prop := fnEndsRow.holds Try.pinned (OpenSpec.ofChange fnEndsSpec)

/-- ITS FALSE NEIGHBOUR: 'it returns false'. Refute it at one input. -/
def fnEndsWrong : ChangeSpec := { name := "fnEnds", fn := fun _ => fun
  | [d] => { results := [.lit (.bool false)], args := [d] }
  | _ => none }
def FnEndsWrongFalsely : Prop := fnEndsRow.holds Try.pinned (OpenSpec.ofChange fnEndsWrong)

/- THE SECOND FORM. 'bulk': how many values and letters a reading holds, each counted each time it is reached (what is shared counts as often as it is met; a slice's spare places count too). A statement '..UptoSaid' is the law's where the arguments, and the package variables that the reading takes, are together of bulk at most 1048576: NARROWER than '..Said'. Prove '..Said' where nothing that the law and all that it calls make is longer than what came in: it says more and counts as full. Else prove '..UptoSaid'. A law counts once. -/
mutual
def uptoBulk {H : Type} : DataW H → Nat
  | .lit (.string bytes) => bytes.length + 1
  | .lit _ => 1
  | .nil => 1
  | .ptr d => uptoBulk d + 1
  | .slice elems spare => uptoBulkAll elems + uptoBulkAll spare + 1
  | .agg parts => uptoBulkAll parts + 1
  | .iface _ d => uptoBulk d + 1
  | .map entries => uptoBulkEntries entries + 1
  | .held _ => 1
def uptoBulkAll {H : Type} : List (DataW H) → Nat
  | [] => 0
  | d :: r => uptoBulk d + uptoBulkAll r
def uptoBulkEntries {H : Type} : List (Lit × DataW H) → Nat
  | [] => 0
  | x :: r => uptoBulkEntry x + uptoBulkEntries r
def uptoBulkEntry {H : Type} : Lit × DataW H → Nat
  | (.string bytes, d) => bytes.length + uptoBulk d + 1
  | (_, d) => uptoBulk d + 1
 end
def uptoSmall : (H : Type) → List (DataW H) → Bool := fun _ ds => decide (uptoBulkAll ds ≤ 1048576)
def OpenSpec.upto (s : _root_.Go.ChangeSpec) : _root_.Go.OpenSpec := { _root_.Go.OpenSpec.ofChange s with cond := some uptoSmall }

/-- 'laws.FnKindOf', WHERE WHAT IT READS IS OF BULK AT MOST 1048576: true; the input reads as it did. -/
def fnKindOfUptoRow : OpenClaim := { program := "ytlkfdjnkkooofaa", sum := "04be657d69c36d99a7b5c4d8c7022fc39535a4b520b59bfbe70321d860660dcc", func := "given.example/pub-budwood/laws.FnKindOf", spec := "fnKindOf", recurses := true, loops := true, apart := false, narrowed := true }
def FnKindOfUptoSaid : Prop := fnKindOfUptoRow.holds Try.pinned (OpenSpec.upto fnKindOfSpec)

/-- 'laws.FnHas', WHERE WHAT IT READS IS OF BULK AT MOST 1048576: true; the input reads as it did. -/
def fnHasUptoRow : OpenClaim := { program := "ytlkfdjnkkooofaa", sum := "04be657d69c36d99a7b5c4d8c7022fc39535a4b520b59bfbe70321d860660dcc", func := "given.example/pub-budwood/laws.FnHas", spec := "fnHas", recurses := true, loops := true, apart := false, narrowed := true }
def FnHasUptoSaid : Prop := fnHasUptoRow.holds Try.pinned (OpenSpec.upto fnHasSpec)

/-- 'laws.FnSet', WHERE WHAT IT READS IS OF BULK AT MOST 1048576: true; the input reads as it did. -/
def fnSetUptoRow : OpenClaim := { program := "ytlkfdjnkkooofaa", sum := "04be657d69c36d99a7b5c4d8c7022fc39535a4b520b59bfbe70321d860660dcc", func := "given.example/pub-budwood/laws.FnSet", spec := "fnSet", recurses := true, loops := true, apart := false, narrowed := true }
def FnSetUptoSaid : Prop := fnSetUptoRow.holds Try.pinned (OpenSpec.upto fnSetSpec)

/-- 'laws.FnPick', WHERE WHAT IT READS IS OF BULK AT MOST 1048576: true; the input reads as it did. -/
def fnPickUptoRow : OpenClaim := { program := "ytlkfdjnkkooofaa", sum := "04be657d69c36d99a7b5c4d8c7022fc39535a4b520b59bfbe70321d860660dcc", func := "given.example/pub-budwood/laws.FnPick", spec := "fnPick", recurses := true, loops := true, apart := false, narrowed := true }
def FnPickUptoSaid : Prop := fnPickUptoRow.holds Try.pinned (OpenSpec.upto fnPickSpec)

/-- 'laws.FnConcat', WHERE WHAT IT READS IS OF BULK AT MOST 1048576: true; the input reads as it did. -/
def fnConcatUptoRow : OpenClaim := { program := "ytlkfdjnkkooofaa", sum := "04be657d69c36d99a7b5c4d8c7022fc39535a4b520b59bfbe70321d860660dcc", func := "given.example/pub-budwood/laws.FnConcat", spec := "fnConcat", recurses := true, loops := true, apart := false, narrowed := true }
def FnConcatUptoSaid : Prop := fnConcatUptoRow.holds Try.pinned (OpenSpec.upto fnConcatSpec)

/-- 'laws.FnDig', WHERE WHAT IT READS IS OF BULK AT MOST 1048576: true; the input reads as it did. -/
def fnDigUptoRow : OpenClaim := { program := "ytlkfdjnkkooofaa", sum := "04be657d69c36d99a7b5c4d8c7022fc39535a4b520b59bfbe70321d860660dcc", func := "given.example/pub-budwood/laws.FnDig", spec := "fnDig", unfollowed := true, recurses := true, loops := true, apart := false, narrowed := true }
def FnDigUptoSaid : Prop := fnDigUptoRow.holds Try.pinned (OpenSpec.upto fnDigSpec)

/-- 'laws.FnCoalesce', WHERE WHAT IT READS IS OF BULK AT MOST 1048576: true; the input reads as it did. -/
def fnCoalesceUptoRow : OpenClaim := { program := "ytlkfdjnkkooofaa", sum := "04be657d69c36d99a7b5c4d8c7022fc39535a4b520b59bfbe70321d860660dcc", func := "given.example/pub-budwood/laws.FnCoalesce", spec := "fnCoalesce", recurses := true, loops := true, apart := false, narrowed := true }
def FnCoalesceUptoSaid : Prop := fnCoalesceUptoRow.holds Try.pinned (OpenSpec.upto fnCoalesceSpec)

/-- 'laws.FnUniq', WHERE WHAT IT READS IS OF BULK AT MOST 1048576: true; the input reads as it did. -/
def fnUniqUptoRow : OpenClaim := { program := "ytlkfdjnkkooofaa", sum := "04be657d69c36d99a7b5c4d8c7022fc39535a4b520b59bfbe70321d860660dcc", func := "given.example/pub-budwood/laws.FnUniq", spec := "fnUniq", unfollowed := true, recurses := true, loops := true, apart := false, narrowed := true }
def FnUniqUptoSaid : Prop := fnUniqUptoRow.holds Try.pinned (OpenSpec.upto fnUniqSpec)

/-- 'laws.FnEnds', WHERE WHAT IT READS IS OF BULK AT MOST 1048576: true; the input reads as it did. -/
def fnEndsUptoRow : OpenClaim := { program := "ytlkfdjnkkooofaa", sum := "04be657d69c36d99a7b5c4d8c7022fc39535a4b520b59bfbe70321d860660dcc", func := "given.example/pub-budwood/laws.FnEnds", spec := "fnEnds", unfollowed := true, recurses := true, loops := true, apart := false, narrowed := true }
def FnEndsUptoSaid : Prop := fnEndsUptoRow.holds Try.pinned (OpenSpec.upto fnEndsSpec)

end Rows
end Go.Proofs.Ytlkfdjnkkooofaa
