/-
  DERIVED. GIVEN WITH THE SEED: THE CARDS: each row of YtddddjdcnlidfaaDoorRows.lean that lists a variable, with what it lists TIED to the program's text (the seventh form; the later family's looks); each row that meets fmt, with fmt's text TOLD by the authors' own Lean function (tested against real Go, not proved from fmt's source: count such statements apart). THE CARD IS WHAT COUNTS. Prove the row's statement (the work); the ties are given (YtddddjdcnlidfaaDoorTie.lean); close each card by the builder's one call (the guide's Derived/Test/ToyasCard.lean, 'card_holds'). Laid BY PROGRAM, IN A SANDBOX (cutbox-door.mjs). By AI agents, Wed Nov 11 2026. No macro, syntax, notation, axiom, sorry.
-/
import Derived.Test.YtddddjdcnlidfaaDoorRows
import GoSem.ClaimSeven
namespace Go.Proofs.YtddddjdcnlidfaaDoor
namespace Rows

/-- THE TIED CARD OF 'laws.FnSeqUntil'. -/
def fnSeqUntilCard : Claim7 := { stood := { row := fnSeqUntilRow, standIns := [], harness := (true, "8fdd8bc30887b9daac4c2b4046c3fb6b80cb7dce7f85448eb1f27015b2c7bea1"), looks := true }, kinds := [], alts := [], laidByText := true, laidKinds := [.data, .data, .data], laidTests := true, laidLooks := .later }
def FnSeqUntilCardSaid : Prop := Claim7.holds Tryd.pinned (.plain (OpenSpec.ofChange fnSeqUntilSpec)) fnSeqUntilCard

/-- THE TIED CARD OF 'laws.FnDurationRound'. -/
def fnDurationRoundCard : Claim7 := { stood := { row := fnDurationRoundRow, standIns := [], harness := (true, "8fdd8bc30887b9daac4c2b4046c3fb6b80cb7dce7f85448eb1f27015b2c7bea1"), looks := true }, kinds := [], alts := [], laidByText := true, laidKinds := [.data, .data, .data, .sentinel, .mapped], laidTests := true, laidLooks := .later }
def FnDurationRoundCardSaid : Prop := Claim7.holds Tryd.pinned (.plain (OpenSpec.ofChange fnDurationRoundSpec)) fnDurationRoundCard

/-- THE TIED CARD OF 'laws.FnAtoi'. -/
def fnAtoiCard : Claim7 := { stood := { row := fnAtoiRow, standIns := [], harness := (true, "8fdd8bc30887b9daac4c2b4046c3fb6b80cb7dce7f85448eb1f27015b2c7bea1"), looks := true }, kinds := [], alts := [], laidByText := true, laidKinds := [.data, .data, .data, .sentinel, .sentinel], laidTests := true, laidLooks := .later }
def FnAtoiCardSaid : Prop := Claim7.holds Tryd.pinned (.plain (OpenSpec.ofChange fnAtoiSpec)) fnAtoiCard

/-- THE TIED CARD OF 'laws.FnMul'. -/
def fnMulCard : Claim7 := { stood := { row := fnMulRow, standIns := [], harness := (true, "8fdd8bc30887b9daac4c2b4046c3fb6b80cb7dce7f85448eb1f27015b2c7bea1"), looks := true }, kinds := [], alts := [], laidByText := true, laidKinds := [.data, .data, .data, .sentinel, .sentinel], laidTests := true, laidLooks := .later }
def FnMulCardSaid : Prop := Claim7.holds Tryd.pinned (.plain (OpenSpec.ofChange fnMulSpec)) fnMulCard

/-- THE TIED CARD OF 'laws.FnAdd'. -/
def fnAddCard : Claim7 := { stood := { row := fnAddRow, standIns := [], harness := (true, "8fdd8bc30887b9daac4c2b4046c3fb6b80cb7dce7f85448eb1f27015b2c7bea1"), looks := true }, kinds := [], alts := [], laidByText := true, laidKinds := [.data, .data, .data, .sentinel, .sentinel], laidTests := true, laidLooks := .later }
def FnAddCardSaid : Prop := Claim7.holds Tryd.pinned (.plain (OpenSpec.ofChange fnAddSpec)) fnAddCard

/-- THE TIED CARD OF 'laws.FnMax'. -/
def fnMaxCard : Claim7 := { stood := { row := fnMaxRow, standIns := [], harness := (true, "8fdd8bc30887b9daac4c2b4046c3fb6b80cb7dce7f85448eb1f27015b2c7bea1"), looks := true }, kinds := [], alts := [], laidByText := true, laidKinds := [.data, .data, .data, .sentinel, .sentinel], laidTests := true, laidLooks := .later }
def FnMaxCardSaid : Prop := Claim7.holds Tryd.pinned (.plain (OpenSpec.ofChange fnMaxSpec)) fnMaxCard

/-- THE TIED CARD OF 'laws.FnCastText'. -/
def fnCastTextCard : Claim7 := { stood := { row := fnCastTextRow, standIns := [], harness := (true, "8fdd8bc30887b9daac4c2b4046c3fb6b80cb7dce7f85448eb1f27015b2c7bea1"), looks := true }, kinds := [], alts := [], laidByText := true, laidKinds := [.data, .data, .data, .sentinel, .sentinel], laidTests := true, laidLooks := .later }
def FnCastTextCardSaid : Prop := Claim7.holds Tryd.pinned (.plain (OpenSpec.ofChange fnCastTextSpec)) fnCastTextCard

/-- THE SECOND FORM's CARD OF 'laws.FnSeqUntil'. -/
def fnSeqUntilUptoCard : Claim7 := { stood := { row := fnSeqUntilUptoRow, standIns := [], harness := (true, "8fdd8bc30887b9daac4c2b4046c3fb6b80cb7dce7f85448eb1f27015b2c7bea1"), looks := true }, kinds := [], alts := [], laidByText := true, laidKinds := [.data, .data, .data], laidTests := true, laidLooks := .later }
def FnSeqUntilUptoCardSaid : Prop := Claim7.holds Tryd.pinned (.plain (OpenSpec.upto fnSeqUntilSpec)) fnSeqUntilUptoCard

/-- THE SECOND FORM's CARD OF 'laws.FnDurationRound'. -/
def fnDurationRoundUptoCard : Claim7 := { stood := { row := fnDurationRoundUptoRow, standIns := [], harness := (true, "8fdd8bc30887b9daac4c2b4046c3fb6b80cb7dce7f85448eb1f27015b2c7bea1"), looks := true }, kinds := [], alts := [], laidByText := true, laidKinds := [.data, .data, .data, .sentinel, .mapped], laidTests := true, laidLooks := .later }
def FnDurationRoundUptoCardSaid : Prop := Claim7.holds Tryd.pinned (.plain (OpenSpec.upto fnDurationRoundSpec)) fnDurationRoundUptoCard

/-- THE SECOND FORM's CARD OF 'laws.FnAtoi'. -/
def fnAtoiUptoCard : Claim7 := { stood := { row := fnAtoiUptoRow, standIns := [], harness := (true, "8fdd8bc30887b9daac4c2b4046c3fb6b80cb7dce7f85448eb1f27015b2c7bea1"), looks := true }, kinds := [], alts := [], laidByText := true, laidKinds := [.data, .data, .data, .sentinel, .sentinel], laidTests := true, laidLooks := .later }
def FnAtoiUptoCardSaid : Prop := Claim7.holds Tryd.pinned (.plain (OpenSpec.upto fnAtoiSpec)) fnAtoiUptoCard

/-- THE SECOND FORM's CARD OF 'laws.FnMul'. -/
def fnMulUptoCard : Claim7 := { stood := { row := fnMulUptoRow, standIns := [], harness := (true, "8fdd8bc30887b9daac4c2b4046c3fb6b80cb7dce7f85448eb1f27015b2c7bea1"), looks := true }, kinds := [], alts := [], laidByText := true, laidKinds := [.data, .data, .data, .sentinel, .sentinel], laidTests := true, laidLooks := .later }
def FnMulUptoCardSaid : Prop := Claim7.holds Tryd.pinned (.plain (OpenSpec.upto fnMulSpec)) fnMulUptoCard

/-- THE SECOND FORM's CARD OF 'laws.FnAdd'. -/
def fnAddUptoCard : Claim7 := { stood := { row := fnAddUptoRow, standIns := [], harness := (true, "8fdd8bc30887b9daac4c2b4046c3fb6b80cb7dce7f85448eb1f27015b2c7bea1"), looks := true }, kinds := [], alts := [], laidByText := true, laidKinds := [.data, .data, .data, .sentinel, .sentinel], laidTests := true, laidLooks := .later }
def FnAddUptoCardSaid : Prop := Claim7.holds Tryd.pinned (.plain (OpenSpec.upto fnAddSpec)) fnAddUptoCard

/-- THE SECOND FORM's CARD OF 'laws.FnMax'. -/
def fnMaxUptoCard : Claim7 := { stood := { row := fnMaxUptoRow, standIns := [], harness := (true, "8fdd8bc30887b9daac4c2b4046c3fb6b80cb7dce7f85448eb1f27015b2c7bea1"), looks := true }, kinds := [], alts := [], laidByText := true, laidKinds := [.data, .data, .data, .sentinel, .sentinel], laidTests := true, laidLooks := .later }
def FnMaxUptoCardSaid : Prop := Claim7.holds Tryd.pinned (.plain (OpenSpec.upto fnMaxSpec)) fnMaxUptoCard

/-- THE SECOND FORM's CARD OF 'laws.FnCastText'. -/
def fnCastTextUptoCard : Claim7 := { stood := { row := fnCastTextUptoRow, standIns := [], harness := (true, "8fdd8bc30887b9daac4c2b4046c3fb6b80cb7dce7f85448eb1f27015b2c7bea1"), looks := true }, kinds := [], alts := [], laidByText := true, laidKinds := [.data, .data, .data, .sentinel, .sentinel], laidTests := true, laidLooks := .later }
def FnCastTextUptoCardSaid : Prop := Claim7.holds Tryd.pinned (.plain (OpenSpec.upto fnCastTextSpec)) fnCastTextUptoCard
end Rows
end Go.Proofs.YtddddjdcnlidfaaDoor
