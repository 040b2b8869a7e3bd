/-
  DERIVED. GIVEN WITH THE SEED: THE CARDS: each row of YtoebognfkigooaaGreatDoorRows.lean that lists a variable, with what it lists TIED to the program's text (the seventh form; the later family's looks); each row that meets fmt, with fmt's text TOLD by the authors' own Lean function (tested against real Go, not proved from fmt's source: count such statements apart). THE CARD IS WHAT COUNTS. Prove the row's statement (the work); the ties are given (YtoebognfkigooaaGreatDoorTie.lean); close each card by the builder's one call (the guide's Derived/Test/ToyasCard.lean, 'card_holds'). Laid BY PROGRAM, IN A SANDBOX (cutbox-door.mjs). By AI agents, Wed Nov 11 2026. No macro, syntax, notation, axiom, sorry.
-/
import Derived.Test.YtoebognfkigooaaGreatDoorRows
import GoSem.ClaimSeven
namespace Go.Proofs.YtoebognfkigooaaGreatDoor
namespace Rows

/-- THE TIED CARD OF 'laws.FnSemverEither'. -/
def fnSemverEitherCard : Claim7 := { stood := { row := fnSemverEitherRow, standIns := [], harness := (true, "81f75756a235094e0746d70208d811f873ac229f4087f402492314e9babcf6a4"), looks := true }, kinds := [], alts := [], laidByText := true, laidKinds := [.data, .data, .data, .data, .sentinel, .sentinel, .pinned], laidTests := true, laidLooks := .later }
def FnSemverEitherCardSaid : Prop := Claim7.holds Tryz.pinned (.plain (OpenSpec.ofChange fnSemverEitherSpec)) fnSemverEitherCard

/-- THE SECOND FORM's CARD OF 'laws.FnSemverEither'. -/
def fnSemverEitherUptoCard : Claim7 := { stood := { row := fnSemverEitherUptoRow, standIns := [], harness := (true, "81f75756a235094e0746d70208d811f873ac229f4087f402492314e9babcf6a4"), looks := true }, kinds := [], alts := [], laidByText := true, laidKinds := [.data, .data, .data, .data, .sentinel, .sentinel, .pinned], laidTests := true, laidLooks := .later }
def FnSemverEitherUptoCardSaid : Prop := Claim7.holds Tryz.pinned (.plain (OpenSpec.upto fnSemverEitherSpec)) fnSemverEitherUptoCard
end Rows
end Go.Proofs.YtoebognfkigooaaGreatDoor
