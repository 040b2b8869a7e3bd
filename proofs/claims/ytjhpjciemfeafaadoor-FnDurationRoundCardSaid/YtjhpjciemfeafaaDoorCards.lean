/-
  DERIVED. GIVEN WITH THE SEED: THE CARDS: each row of YtjhpjciemfeafaaDoorRows.lean that lists a variable, with what it lists TIED to the program's text (the seventh form; the later family's looks); each row that meets fmt, with fmt's text TOLD by the authors' own Lean function (tested against real Go, not proved from fmt's source: count such statements apart). THE CARD IS WHAT COUNTS. Prove the row's statement (the work); the ties are given (YtjhpjciemfeafaaDoorTie.lean); close each card by the builder's one call (the guide's Derived/Test/ToyasCard.lean, 'card_holds'). Laid BY PROGRAM, IN A SANDBOX (cutbox-door.mjs). By AI agents, Wed Nov 11 2026. No macro, syntax, notation, axiom, sorry.
-/
import Derived.Test.YtjhpjciemfeafaaDoorRows
import GoSem.ClaimSeven
namespace Go.Proofs.YtjhpjciemfeafaaDoor
namespace Rows

/-- THE TIED CARD OF 'laws.FnSeqUntil'. -/
def fnSeqUntilCard : Claim7 := { stood := { row := fnSeqUntilRow, standIns := [], harness := (true, "6c22c721a8229d3f5617661b37134ea1031d06c5578e766b5400baad5bd0f2a4"), looks := true }, kinds := [], alts := [], laidByText := true, laidKinds := [.data, .data, .data], laidTests := true, laidLooks := .later }
def FnSeqUntilCardSaid : Prop := Claim7.holds Tryd.pinned (.plain (OpenSpec.ofChange fnSeqUntilSpec)) fnSeqUntilCard

/-- THE TIED CARD OF 'laws.FnDurationRound'. -/
def fnDurationRoundCard : Claim7 := { stood := { row := fnDurationRoundRow, standIns := [], harness := (true, "6c22c721a8229d3f5617661b37134ea1031d06c5578e766b5400baad5bd0f2a4"), looks := true }, kinds := [], alts := [], laidByText := true, laidKinds := [.data, .data, .data, .sentinel, .mapped], laidTests := true, laidLooks := .later }
def FnDurationRoundCardSaid : Prop := Claim7.holds Tryd.pinned (.plain (OpenSpec.ofChange fnDurationRoundSpec)) fnDurationRoundCard

/-- THE SECOND FORM's CARD OF 'laws.FnSeqUntil'. -/
def fnSeqUntilUptoCard : Claim7 := { stood := { row := fnSeqUntilUptoRow, standIns := [], harness := (true, "6c22c721a8229d3f5617661b37134ea1031d06c5578e766b5400baad5bd0f2a4"), looks := true }, kinds := [], alts := [], laidByText := true, laidKinds := [.data, .data, .data], laidTests := true, laidLooks := .later }
def FnSeqUntilUptoCardSaid : Prop := Claim7.holds Tryd.pinned (.plain (OpenSpec.upto fnSeqUntilSpec)) fnSeqUntilUptoCard

/-- THE SECOND FORM's CARD OF 'laws.FnDurationRound'. -/
def fnDurationRoundUptoCard : Claim7 := { stood := { row := fnDurationRoundUptoRow, standIns := [], harness := (true, "6c22c721a8229d3f5617661b37134ea1031d06c5578e766b5400baad5bd0f2a4"), looks := true }, kinds := [], alts := [], laidByText := true, laidKinds := [.data, .data, .data, .sentinel, .mapped], laidTests := true, laidLooks := .later }
def FnDurationRoundUptoCardSaid : Prop := Claim7.holds Tryd.pinned (.plain (OpenSpec.upto fnDurationRoundSpec)) fnDurationRoundUptoCard
end Rows
end Go.Proofs.YtjhpjciemfeafaaDoor
