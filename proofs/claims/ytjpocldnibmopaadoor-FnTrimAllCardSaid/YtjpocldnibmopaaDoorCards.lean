/-
  DERIVED. GIVEN WITH THE SEED: THE CARDS: each row of YtjpocldnibmopaaDoorRows.lean that lists a variable, with what it lists TIED to the program's text (the seventh form; the later family's looks); each row that meets fmt, with fmt's text TOLD by the authors' own Lean function (tested against real Go, not proved from fmt's source: count such statements apart). THE CARD IS WHAT COUNTS. Prove the row's statement (the work); the ties are given (YtjpocldnibmopaaDoorTie.lean); close each card by the builder's one call (the guide's Derived/Test/ToyasCard.lean, 'card_holds'). Laid BY PROGRAM, IN A SANDBOX (cutbox-door.mjs). By AI agents, Wed Nov 11 2026. No macro, syntax, notation, axiom, sorry.
-/
import Derived.Test.YtjpocldnibmopaaDoorRows
import GoSem.ClaimSeven
namespace Go.Proofs.YtjpocldnibmopaaDoor
namespace Rows

/-- THE TIED CARD OF 'laws.FnReplaceAll'. -/
def fnReplaceAllCard : Claim7 := { stood := { row := fnReplaceAllRow, standIns := [], harness := (true, "0a13dd596e2b0125cee7392e47ac428d5e2a41e1c32288b15a5dc822604b05a0"), looks := false }, kinds := [], alts := [], laidByText := true, laidKinds := [.data, .pinned], laidTests := true, laidLooks := .later }
def FnReplaceAllCardSaid : Prop := Claim7.holds Tryd.pinned (.plain (OpenSpec.ofChange fnReplaceAllSpec)) fnReplaceAllCard

/-- THE TIED CARD OF 'laws.FnSliceText'. -/
def fnSliceTextCard : Claim7 := { stood := { row := fnSliceTextRow, standIns := [], harness := (true, "0a13dd596e2b0125cee7392e47ac428d5e2a41e1c32288b15a5dc822604b05a0"), looks := false }, kinds := [], alts := [], laidByText := true, laidKinds := [.data, .pinned], laidTests := true, laidLooks := .later }
def FnSliceTextCardSaid : Prop := Claim7.holds Tryd.pinned (.plain (OpenSpec.ofChange fnSliceTextSpec)) fnSliceTextCard

/-- THE TIED CARD OF 'laws.FnTrimAll'. -/
def fnTrimAllCard : Claim7 := { stood := { row := fnTrimAllRow, standIns := [], harness := (true, "0a13dd596e2b0125cee7392e47ac428d5e2a41e1c32288b15a5dc822604b05a0"), looks := false }, kinds := [], alts := [], laidByText := true, laidKinds := [.data, .pinned], laidTests := true, laidLooks := .later }
def FnTrimAllCardSaid : Prop := Claim7.holds Tryd.pinned (.plain (OpenSpec.ofChange fnTrimAllSpec)) fnTrimAllCard

/-- THE SECOND FORM's CARD OF 'laws.FnReplaceAll'. -/
def fnReplaceAllUptoCard : Claim7 := { stood := { row := fnReplaceAllUptoRow, standIns := [], harness := (true, "0a13dd596e2b0125cee7392e47ac428d5e2a41e1c32288b15a5dc822604b05a0"), looks := false }, kinds := [], alts := [], laidByText := true, laidKinds := [.data, .pinned], laidTests := true, laidLooks := .later }
def FnReplaceAllUptoCardSaid : Prop := Claim7.holds Tryd.pinned (.plain (OpenSpec.upto fnReplaceAllSpec)) fnReplaceAllUptoCard

/-- THE SECOND FORM's CARD OF 'laws.FnSliceText'. -/
def fnSliceTextUptoCard : Claim7 := { stood := { row := fnSliceTextUptoRow, standIns := [], harness := (true, "0a13dd596e2b0125cee7392e47ac428d5e2a41e1c32288b15a5dc822604b05a0"), looks := false }, kinds := [], alts := [], laidByText := true, laidKinds := [.data, .pinned], laidTests := true, laidLooks := .later }
def FnSliceTextUptoCardSaid : Prop := Claim7.holds Tryd.pinned (.plain (OpenSpec.upto fnSliceTextSpec)) fnSliceTextUptoCard

/-- THE SECOND FORM's CARD OF 'laws.FnTrimAll'. -/
def fnTrimAllUptoCard : Claim7 := { stood := { row := fnTrimAllUptoRow, standIns := [], harness := (true, "0a13dd596e2b0125cee7392e47ac428d5e2a41e1c32288b15a5dc822604b05a0"), looks := false }, kinds := [], alts := [], laidByText := true, laidKinds := [.data, .pinned], laidTests := true, laidLooks := .later }
def FnTrimAllUptoCardSaid : Prop := Claim7.holds Tryd.pinned (.plain (OpenSpec.upto fnTrimAllSpec)) fnTrimAllUptoCard
end Rows
end Go.Proofs.YtjpocldnibmopaaDoor
