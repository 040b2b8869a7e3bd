/-
  DERIVED. GIVEN WITH THE SEED: THE CARDS: each row of YtahfjdggomndoaaDoorRows.lean that lists a variable, with what it lists TIED to the program's text (the seventh form; the later family's looks); each row that meets fmt, with fmt's text TOLD by the authors' own Lean function (tested against real Go, not proved from fmt's source: count such statements apart). THE CARD IS WHAT COUNTS. Prove the row's statement (the work); the ties are given (YtahfjdggomndoaaDoorTie.lean); close each card by the builder's one call (the guide's Derived/Test/ToyasCard.lean, 'card_holds'). Laid BY PROGRAM, IN A SANDBOX (cutbox-door.mjs). By AI agents, Wed Nov 11 2026. No macro, syntax, notation, axiom, sorry.
-/
import Derived.Test.YtahfjdggomndoaaDoorRows
import GoSem.ClaimSeven
namespace Go.Proofs.YtahfjdggomndoaaDoor
namespace Rows

/-- THE TIED CARD OF 'laws.FnSeqUntil'. -/
def fnSeqUntilCard : Claim7 := { stood := { row := fnSeqUntilRow, standIns := [], harness := (true, "75dd010a8c8075bc1612c310419ac06a23d98489a683faec8ec41917097e23a9"), looks := true }, kinds := [], alts := [], laidByText := true, laidKinds := [.data, .data, .data], laidTests := true, laidLooks := .later }
def FnSeqUntilCardSaid : Prop := Claim7.holds Tryd.pinned (.plain (OpenSpec.ofChange fnSeqUntilSpec)) fnSeqUntilCard

/-- THE TIED CARD OF 'laws.FnAtoi'. -/
def fnAtoiCard : Claim7 := { stood := { row := fnAtoiRow, standIns := [], harness := (true, "75dd010a8c8075bc1612c310419ac06a23d98489a683faec8ec41917097e23a9"), looks := true }, kinds := [], alts := [], laidByText := true, laidKinds := [.data, .data, .data, .sentinel, .sentinel], laidTests := true, laidLooks := .later }
def FnAtoiCardSaid : Prop := Claim7.holds Tryd.pinned (.plain (OpenSpec.ofChange fnAtoiSpec)) fnAtoiCard

/-- THE SECOND FORM's CARD OF 'laws.FnSeqUntil'. -/
def fnSeqUntilUptoCard : Claim7 := { stood := { row := fnSeqUntilUptoRow, standIns := [], harness := (true, "75dd010a8c8075bc1612c310419ac06a23d98489a683faec8ec41917097e23a9"), looks := true }, kinds := [], alts := [], laidByText := true, laidKinds := [.data, .data, .data], laidTests := true, laidLooks := .later }
def FnSeqUntilUptoCardSaid : Prop := Claim7.holds Tryd.pinned (.plain (OpenSpec.upto fnSeqUntilSpec)) fnSeqUntilUptoCard

/-- THE SECOND FORM's CARD OF 'laws.FnAtoi'. -/
def fnAtoiUptoCard : Claim7 := { stood := { row := fnAtoiUptoRow, standIns := [], harness := (true, "75dd010a8c8075bc1612c310419ac06a23d98489a683faec8ec41917097e23a9"), looks := true }, kinds := [], alts := [], laidByText := true, laidKinds := [.data, .data, .data, .sentinel, .sentinel], laidTests := true, laidLooks := .later }
def FnAtoiUptoCardSaid : Prop := Claim7.holds Tryd.pinned (.plain (OpenSpec.upto fnAtoiSpec)) fnAtoiUptoCard
end Rows
end Go.Proofs.YtahfjdggomndoaaDoor
