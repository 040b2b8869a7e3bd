/-
  DERIVED. GIVEN WITH THE SEED: THE CARDS: each row of YtmoilbhkjmhoaaaDoorRows.lean that lists a variable, with what it lists TIED to the program's text (the seventh form; the later family's looks); each row that meets fmt, with fmt's text TOLD by the authors' own Lean function (tested against real Go, not proved from fmt's source: count such statements apart). THE CARD IS WHAT COUNTS. Prove the row's statement (the work); the ties are given (YtmoilbhkjmhoaaaDoorTie.lean); close each card by the builder's one call (the guide's Derived/Test/ToyasCard.lean, 'card_holds'). Laid BY PROGRAM, IN A SANDBOX (cutbox-door.mjs). By AI agents, Wed Nov 11 2026. No macro, syntax, notation, axiom, sorry.
-/
import Derived.Test.YtmoilbhkjmhoaaaDoorRows
import GoSem.ClaimSeven
namespace Go.Proofs.YtmoilbhkjmhoaaaDoor
namespace Rows

/-- THE TIED CARD OF 'laws.FnSemverShort'. -/
def fnSemverShortCard : Claim7 := { stood := { row := fnSemverShortRow, standIns := [], harness := (true, "3dbeb1a4c640000c2a392e55c3390d52ad6712e5d745be234256bc3ffc9cb7ca"), looks := true }, kinds := [], alts := [], laidByText := true, laidKinds := [.data, .data, .data, .sentinel, .sentinel], laidTests := true, laidLooks := .later }
def FnSemverShortCardSaid : Prop := Claim7.holds Tryd.pinned (.plain (OpenSpec.ofChange fnSemverShortSpec)) fnSemverShortCard

/-- THE TIED CARD OF 'laws.FnSemverOrderThree'. -/
def fnSemverOrderThreeCard : Claim7 := { stood := { row := fnSemverOrderThreeRow, standIns := [], harness := (true, "3dbeb1a4c640000c2a392e55c3390d52ad6712e5d745be234256bc3ffc9cb7ca"), looks := true }, kinds := [], alts := [], laidByText := true, laidKinds := [.data, .data, .data, .sentinel, .sentinel], laidTests := true, laidLooks := .later }
def FnSemverOrderThreeCardSaid : Prop := Claim7.holds Tryd.pinned (.plain (OpenSpec.ofChange fnSemverOrderThreeSpec)) fnSemverOrderThreeCard

/-- THE TIED CARD OF 'laws.FnRangeCaret'. -/
def fnRangeCaretCard : Claim7 := { stood := { row := fnRangeCaretRow, standIns := [], harness := (true, "3dbeb1a4c640000c2a392e55c3390d52ad6712e5d745be234256bc3ffc9cb7ca"), looks := true }, kinds := [], alts := [], laidByText := true, laidKinds := [.data, .data, .data, .data, .sentinel, .sentinel, .pinned], laidTests := true, laidLooks := .later }
def FnRangeCaretCardSaid : Prop := Claim7.holds Tryd.pinned (.plain (OpenSpec.ofChange fnRangeCaretSpec)) fnRangeCaretCard

/-- THE TIED CARD OF 'laws.FnRangeShort'. -/
def fnRangeShortCard : Claim7 := { stood := { row := fnRangeShortRow, standIns := [], harness := (true, "3dbeb1a4c640000c2a392e55c3390d52ad6712e5d745be234256bc3ffc9cb7ca"), looks := true }, kinds := [], alts := [], laidByText := true, laidKinds := [.data, .data, .data, .data, .sentinel, .sentinel, .pinned], laidTests := true, laidLooks := .later }
def FnRangeShortCardSaid : Prop := Claim7.holds Tryd.pinned (.plain (OpenSpec.ofChange fnRangeShortSpec)) fnRangeShortCard

/-- THE TIED CARD OF 'laws.FnRangeSigns'. -/
def fnRangeSignsCard : Claim7 := { stood := { row := fnRangeSignsRow, standIns := [], harness := (true, "3dbeb1a4c640000c2a392e55c3390d52ad6712e5d745be234256bc3ffc9cb7ca"), looks := true }, kinds := [], alts := [], laidByText := true, laidKinds := [.data, .data, .data, .data, .sentinel, .sentinel, .pinned], laidTests := true, laidLooks := .later }
def FnRangeSignsCardSaid : Prop := Claim7.holds Tryd.pinned (.plain (OpenSpec.ofChange fnRangeSignsSpec)) fnRangeSignsCard

/-- THE TIED CARD OF 'laws.FnSemverCompare'. -/
def fnSemverCompareCard : Claim7 := { stood := { row := fnSemverCompareRow, standIns := [], harness := (true, "3dbeb1a4c640000c2a392e55c3390d52ad6712e5d745be234256bc3ffc9cb7ca"), looks := true }, kinds := [], alts := [], laidByText := true, laidKinds := [.data, .data, .data, .data, .sentinel, .sentinel, .pinned], laidTests := true, laidLooks := .later }
def FnSemverCompareCardSaid : Prop := Claim7.holds Tryd.pinned (.plain (OpenSpec.ofChange fnSemverCompareSpec)) fnSemverCompareCard

/-- THE SECOND FORM's CARD OF 'laws.FnSemverShort'. -/
def fnSemverShortUptoCard : Claim7 := { stood := { row := fnSemverShortUptoRow, standIns := [], harness := (true, "3dbeb1a4c640000c2a392e55c3390d52ad6712e5d745be234256bc3ffc9cb7ca"), looks := true }, kinds := [], alts := [], laidByText := true, laidKinds := [.data, .data, .data, .sentinel, .sentinel], laidTests := true, laidLooks := .later }
def FnSemverShortUptoCardSaid : Prop := Claim7.holds Tryd.pinned (.plain (OpenSpec.upto fnSemverShortSpec)) fnSemverShortUptoCard

/-- THE SECOND FORM's CARD OF 'laws.FnSemverOrderThree'. -/
def fnSemverOrderThreeUptoCard : Claim7 := { stood := { row := fnSemverOrderThreeUptoRow, standIns := [], harness := (true, "3dbeb1a4c640000c2a392e55c3390d52ad6712e5d745be234256bc3ffc9cb7ca"), looks := true }, kinds := [], alts := [], laidByText := true, laidKinds := [.data, .data, .data, .sentinel, .sentinel], laidTests := true, laidLooks := .later }
def FnSemverOrderThreeUptoCardSaid : Prop := Claim7.holds Tryd.pinned (.plain (OpenSpec.upto fnSemverOrderThreeSpec)) fnSemverOrderThreeUptoCard

/-- THE SECOND FORM's CARD OF 'laws.FnRangeCaret'. -/
def fnRangeCaretUptoCard : Claim7 := { stood := { row := fnRangeCaretUptoRow, standIns := [], harness := (true, "3dbeb1a4c640000c2a392e55c3390d52ad6712e5d745be234256bc3ffc9cb7ca"), looks := true }, kinds := [], alts := [], laidByText := true, laidKinds := [.data, .data, .data, .data, .sentinel, .sentinel, .pinned], laidTests := true, laidLooks := .later }
def FnRangeCaretUptoCardSaid : Prop := Claim7.holds Tryd.pinned (.plain (OpenSpec.upto fnRangeCaretSpec)) fnRangeCaretUptoCard

/-- THE SECOND FORM's CARD OF 'laws.FnRangeShort'. -/
def fnRangeShortUptoCard : Claim7 := { stood := { row := fnRangeShortUptoRow, standIns := [], harness := (true, "3dbeb1a4c640000c2a392e55c3390d52ad6712e5d745be234256bc3ffc9cb7ca"), looks := true }, kinds := [], alts := [], laidByText := true, laidKinds := [.data, .data, .data, .data, .sentinel, .sentinel, .pinned], laidTests := true, laidLooks := .later }
def FnRangeShortUptoCardSaid : Prop := Claim7.holds Tryd.pinned (.plain (OpenSpec.upto fnRangeShortSpec)) fnRangeShortUptoCard

/-- THE SECOND FORM's CARD OF 'laws.FnRangeSigns'. -/
def fnRangeSignsUptoCard : Claim7 := { stood := { row := fnRangeSignsUptoRow, standIns := [], harness := (true, "3dbeb1a4c640000c2a392e55c3390d52ad6712e5d745be234256bc3ffc9cb7ca"), looks := true }, kinds := [], alts := [], laidByText := true, laidKinds := [.data, .data, .data, .data, .sentinel, .sentinel, .pinned], laidTests := true, laidLooks := .later }
def FnRangeSignsUptoCardSaid : Prop := Claim7.holds Tryd.pinned (.plain (OpenSpec.upto fnRangeSignsSpec)) fnRangeSignsUptoCard

/-- THE SECOND FORM's CARD OF 'laws.FnSemverCompare'. -/
def fnSemverCompareUptoCard : Claim7 := { stood := { row := fnSemverCompareUptoRow, standIns := [], harness := (true, "3dbeb1a4c640000c2a392e55c3390d52ad6712e5d745be234256bc3ffc9cb7ca"), looks := true }, kinds := [], alts := [], laidByText := true, laidKinds := [.data, .data, .data, .data, .sentinel, .sentinel, .pinned], laidTests := true, laidLooks := .later }
def FnSemverCompareUptoCardSaid : Prop := Claim7.holds Tryd.pinned (.plain (OpenSpec.upto fnSemverCompareSpec)) fnSemverCompareUptoCard
end Rows
end Go.Proofs.YtmoilbhkjmhoaaaDoor
