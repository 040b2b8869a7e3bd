/-
  DERIVED. GIVEN WITH THE SEED: THE CARDS: each row of YtakogidcjjmihaaGreatDoorRows.lean that lists a variable, with what it lists TIED to the program's text (the seventh form; the later family's looks); each row that meets fmt, with fmt's text TOLD by the authors' own Lean function (tested against real Go, not proved from fmt's source: count such statements apart). THE CARD IS WHAT COUNTS. Prove the row's statement (the work); the ties are given (YtakogidcjjmihaaGreatDoorTie.lean); close each card by the builder's one call (the guide's Derived/Test/ToyasCard.lean, 'card_holds'). Laid BY PROGRAM, IN A SANDBOX (cutbox-door.mjs). By AI agents, Wed Nov 11 2026. No macro, syntax, notation, axiom, sorry.
-/
import Derived.Test.YtakogidcjjmihaaGreatDoorRows
import GoSem.ClaimSeven
namespace Go.Proofs.YtakogidcjjmihaaGreatDoor
namespace Rows

/-- THE TIED CARD OF 'laws.FnToDecimal'. -/
def fnToDecimalCard : Claim7 := { stood := { row := fnToDecimalRow, standIns := [], harness := (true, "b47df88071237f8d29c2f569d4cc67236a132ecf80ffef1cc296117dcb304ec7"), looks := true }, kinds := [], alts := [], laidByText := true, laidKinds := [.data, .data, .data, .data, .sentinel, .sentinel, .pinned, .pinned], laidTests := true, laidLooks := .later }
def FnToDecimalCardSaid : Prop := Claim7.holds Tryz.pinned (.plain (OpenSpec.ofChange fnToDecimalSpec)) fnToDecimalCard

/-- THE TIED CARD OF 'laws.FnCastReal'. -/
def fnCastRealCard : Claim7 := { stood := { row := fnCastRealRow, standIns := [], harness := (true, "b47df88071237f8d29c2f569d4cc67236a132ecf80ffef1cc296117dcb304ec7"), looks := true }, kinds := [], alts := [], laidByText := true, laidKinds := [.data, .data, .widerDeep, .widerDeep, .data, .data, .data, .data, .data, .sentinel, .sentinel, .pinned, .pinned], laidTests := true, laidLooks := .later }
def FnCastRealCardSaid : Prop := Claim7.holds Tryz.pinned (.plain (OpenSpec.ofChange fnCastRealSpec)) fnCastRealCard

/-- THE SECOND FORM's CARD OF 'laws.FnToDecimal'. -/
def fnToDecimalUptoCard : Claim7 := { stood := { row := fnToDecimalUptoRow, standIns := [], harness := (true, "b47df88071237f8d29c2f569d4cc67236a132ecf80ffef1cc296117dcb304ec7"), looks := true }, kinds := [], alts := [], laidByText := true, laidKinds := [.data, .data, .data, .data, .sentinel, .sentinel, .pinned, .pinned], laidTests := true, laidLooks := .later }
def FnToDecimalUptoCardSaid : Prop := Claim7.holds Tryz.pinned (.plain (OpenSpec.upto fnToDecimalSpec)) fnToDecimalUptoCard

/-- THE SECOND FORM's CARD OF 'laws.FnCastReal'. -/
def fnCastRealUptoCard : Claim7 := { stood := { row := fnCastRealUptoRow, standIns := [], harness := (true, "b47df88071237f8d29c2f569d4cc67236a132ecf80ffef1cc296117dcb304ec7"), looks := true }, kinds := [], alts := [], laidByText := true, laidKinds := [.data, .data, .widerDeep, .widerDeep, .data, .data, .data, .data, .data, .sentinel, .sentinel, .pinned, .pinned], laidTests := true, laidLooks := .later }
def FnCastRealUptoCardSaid : Prop := Claim7.holds Tryz.pinned (.plain (OpenSpec.upto fnCastRealSpec)) fnCastRealUptoCard
end Rows
end Go.Proofs.YtakogidcjjmihaaGreatDoor
