/-
  DERIVED. GIVEN WITH THE SEED: THE CARDS: each row of YtkikkeegdooenaaGreatDoorRows.lean that lists a variable, with what it lists TIED to the program's text (the seventh form; the later family's looks); each row that meets fmt, with fmt's text TOLD by the authors' own Lean function (tested against real Go, not proved from fmt's source: count such statements apart). THE CARD IS WHAT COUNTS. Prove the row's statement (the work); the ties are given (YtkikkeegdooenaaGreatDoorTie.lean); close each card by the builder's one call (the guide's Derived/Test/ToyasCard.lean, 'card_holds'). Laid BY PROGRAM, IN A SANDBOX (cutbox-door.mjs). By AI agents, Wed Nov 11 2026. No macro, syntax, notation, axiom, sorry.
-/
import Derived.Test.YtkikkeegdooenaaGreatDoorRows
import GoSem.ClaimSeven
namespace Go.Proofs.YtkikkeegdooenaaGreatDoor
namespace Rows

/-- THE TIED CARD OF 'laws.FnSplitList'. -/
def fnSplitListCard : Claim7 := { stood := { row := fnSplitListRow, standIns := [], harness := (true, "47b743614bd997070b369da145cd46939655c622fa2b65fa3be31fa3f0dda77e"), looks := true }, kinds := [], alts := [], laidByText := true, laidKinds := [.data, .data, .data, .data, .data, .pinned, .pinned, .pinned], laidTests := true, laidLooks := .later }
def FnSplitListCardSaid : Prop := Claim7.holds Tryz.pinned (.plain (OpenSpec.ofChange fnSplitListSpec)) fnSplitListCard

/-- THE TIED CARD OF 'laws.FnSquote'. -/
def fnSquoteCard : Claim7 := { stood := { row := fnSquoteRow, standIns := [], harness := (true, "47b743614bd997070b369da145cd46939655c622fa2b65fa3be31fa3f0dda77e"), looks := true }, kinds := [], alts := [], laidByText := true, laidKinds := [.data, .data, .data, .data, .pinned, .pinned], laidTests := true, laidLooks := .later }
def FnSquoteCardSaid : Prop := Claim7.holds Tryz.pinned (.plain (OpenSpec.ofChange fnSquoteSpec)) fnSquoteCard

/-- THE SECOND FORM's CARD OF 'laws.FnSplitList'. -/
def fnSplitListUptoCard : Claim7 := { stood := { row := fnSplitListUptoRow, standIns := [], harness := (true, "47b743614bd997070b369da145cd46939655c622fa2b65fa3be31fa3f0dda77e"), looks := true }, kinds := [], alts := [], laidByText := true, laidKinds := [.data, .data, .data, .data, .data, .pinned, .pinned, .pinned], laidTests := true, laidLooks := .later }
def FnSplitListUptoCardSaid : Prop := Claim7.holds Tryz.pinned (.plain (OpenSpec.upto fnSplitListSpec)) fnSplitListUptoCard

/-- THE SECOND FORM's CARD OF 'laws.FnSquote'. -/
def fnSquoteUptoCard : Claim7 := { stood := { row := fnSquoteUptoRow, standIns := [], harness := (true, "47b743614bd997070b369da145cd46939655c622fa2b65fa3be31fa3f0dda77e"), looks := true }, kinds := [], alts := [], laidByText := true, laidKinds := [.data, .data, .data, .data, .pinned, .pinned], laidTests := true, laidLooks := .later }
def FnSquoteUptoCardSaid : Prop := Claim7.holds Tryz.pinned (.plain (OpenSpec.upto fnSquoteSpec)) fnSquoteUptoCard
end Rows
end Go.Proofs.YtkikkeegdooenaaGreatDoor
