/-
  DERIVED. GIVEN WITH THE SEED: THE CARDS: each row of YtakogidcjjmihaaDoorRows.lean that lists a variable, with what it lists TIED to the program's text (the seventh form; the later family's looks); each row that meets fmt, with fmt's text TOLD by the authors' own Lean function (tested against real Go, not proved from fmt's source: count such statements apart). THE CARD IS WHAT COUNTS. Prove the row's statement (the work); the ties are given (YtakogidcjjmihaaDoorTie.lean); close each card by the builder's one call (the guide's Derived/Test/ToyasCard.lean, 'card_holds'). Laid BY PROGRAM, IN A SANDBOX (cutbox-door.mjs). By AI agents, Wed Nov 11 2026. No macro, syntax, notation, axiom, sorry.
-/
import Derived.Test.YtakogidcjjmihaaDoorRows
import GoSem.ClaimSeven
namespace Go.Proofs.YtakogidcjjmihaaDoor
namespace Rows

/-- THE TIED CARD OF 'laws.FnCastText'. -/
def fnCastTextCard : Claim7 := { stood := { row := fnCastTextRow, standIns := [], harness := (true, "96cd2bbe0440dc797ad73b8903efeea9c660c91f2d48f38cf9dccd0b0115c040"), looks := true }, kinds := [], alts := [], laidByText := true, laidKinds := [.data, .data, .data, .sentinel, .sentinel], laidTests := true, laidLooks := .later }
def FnCastTextCardSaid : Prop := Claim7.holds Tryd.pinned (.plain (OpenSpec.ofChange fnCastTextSpec)) fnCastTextCard

/-- THE SECOND FORM's CARD OF 'laws.FnCastText'. -/
def fnCastTextUptoCard : Claim7 := { stood := { row := fnCastTextUptoRow, standIns := [], harness := (true, "96cd2bbe0440dc797ad73b8903efeea9c660c91f2d48f38cf9dccd0b0115c040"), looks := true }, kinds := [], alts := [], laidByText := true, laidKinds := [.data, .data, .data, .sentinel, .sentinel], laidTests := true, laidLooks := .later }
def FnCastTextUptoCardSaid : Prop := Claim7.holds Tryd.pinned (.plain (OpenSpec.upto fnCastTextSpec)) fnCastTextUptoCard
end Rows
end Go.Proofs.YtakogidcjjmihaaDoor
