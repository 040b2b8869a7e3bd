/-
  DERIVED. GIVEN WITH THE SEED: THE CARDS: each row of YtaclgcpfcejplaaGreatDoorRows.lean that lists a variable, with what it lists TIED to the program's text (the seventh form; the later family's looks); each row that meets fmt, with fmt's text TOLD by the authors' own Lean function (tested against real Go, not proved from fmt's source: count such statements apart). THE CARD IS WHAT COUNTS. Prove the row's statement (the work); the ties are given (YtaclgcpfcejplaaGreatDoorTie.lean); close each card by the builder's one call (the guide's Derived/Test/ToyasCard.lean, 'card_holds'). Laid BY PROGRAM, IN A SANDBOX (cutbox-door.mjs). By AI agents, Wed Nov 11 2026. No macro, syntax, notation, axiom, sorry.
-/
import Derived.Test.YtaclgcpfcejplaaGreatDoorRows
import GoSem.ClaimSeven
namespace Go.Proofs.YtaclgcpfcejplaaGreatDoor
namespace Rows

/-- THE TIED CARD OF 'laws.FnDict'. -/
def fnDictCard : Claim7 := { stood := { row := fnDictRow, standIns := [], harness := (true, "afaeca20a1a21c6741f9163ad08e3df4352ec58eebcbc9d4f64dfe8a9041208f"), looks := true }, kinds := [], alts := [], laidByText := true, laidKinds := [.data, .data, .data, .data, .pinned, .pinned], laidTests := true, laidLooks := .later }
def FnDictCardSaid : Prop := Claim7.holds Tryz.pinned (.plain (OpenSpec.ofChange fnDictSpec)) fnDictCard

/-- THE SECOND FORM's CARD OF 'laws.FnDict'. -/
def fnDictUptoCard : Claim7 := { stood := { row := fnDictUptoRow, standIns := [], harness := (true, "afaeca20a1a21c6741f9163ad08e3df4352ec58eebcbc9d4f64dfe8a9041208f"), looks := true }, kinds := [], alts := [], laidByText := true, laidKinds := [.data, .data, .data, .data, .pinned, .pinned], laidTests := true, laidLooks := .later }
def FnDictUptoCardSaid : Prop := Claim7.holds Tryz.pinned (.plain (OpenSpec.upto fnDictSpec)) fnDictUptoCard
end Rows
end Go.Proofs.YtaclgcpfcejplaaGreatDoor
