/-
  DERIVED. GIVEN WITH THE SEED: THE CARDS: each row of YtjaeihbfkmflkaaDoorRows.lean that lists a variable, with what it lists TIED to the program's text (the seventh form; the later family's looks); each row that meets fmt, with fmt's text TOLD by the authors' own Lean function (tested against real Go, not proved from fmt's source: count such statements apart). THE CARD IS WHAT COUNTS. Prove the row's statement (the work); the ties are given (YtjaeihbfkmflkaaDoorTie.lean); close each card by the builder's one call (the guide's Derived/Test/ToyasCard.lean, 'card_holds'). Laid BY PROGRAM, IN A SANDBOX (cutbox-door.mjs). By AI agents, Wed Nov 11 2026. No macro, syntax, notation, axiom, sorry.
-/
import Derived.Test.YtjaeihbfkmflkaaDoorRows
import GoSem.ClaimSeven
namespace Go.Proofs.YtjaeihbfkmflkaaDoor
namespace Rows

/-- THE TIED CARD OF 'laws.FnTranslated'. -/
def fnTranslatedCard : Claim7 := { stood := { row := fnTranslatedRow, standIns := [], harness := (true, "f8cf99c91382419b063972145a5c8e64bc47432b068be4f0102268580ccaa2c5"), looks := true }, kinds := [], alts := [], laidByText := true, laidKinds := [.data, .pinned], laidTests := true, laidLooks := .later }
def FnTranslatedCardSaid : Prop := Claim7.holds Tryd.pinned (.plain (OpenSpec.ofChange fnTranslatedSpec)) fnTranslatedCard

/-- THE TIED CARD OF 'laws.FnPatternsOther'. -/
def fnPatternsOtherCard : Claim7 := { stood := { row := fnPatternsOtherRow, standIns := [], harness := (true, "f8cf99c91382419b063972145a5c8e64bc47432b068be4f0102268580ccaa2c5"), looks := true }, kinds := [], alts := [], laidByText := true, laidKinds := [.data, .pinned], laidTests := true, laidLooks := .later }
def FnPatternsOtherCardSaid : Prop := Claim7.holds Tryd.pinned (.plain (OpenSpec.ofChange fnPatternsOtherSpec)) fnPatternsOtherCard

/-- THE TIED CARD OF 'laws.FnSplitn'. -/
def fnSplitnCard : Claim7 := { stood := { row := fnSplitnRow, standIns := [], harness := (true, "f8cf99c91382419b063972145a5c8e64bc47432b068be4f0102268580ccaa2c5"), looks := true }, kinds := [], alts := [], laidByText := true, laidKinds := [.data, .data, .data, .data, .pinned], laidTests := true, laidLooks := .later }
def FnSplitnCardSaid : Prop := Claim7.holds Tryd.pinned (.plain (OpenSpec.ofChange fnSplitnSpec)) fnSplitnCard

/-- THE SECOND FORM's CARD OF 'laws.FnTranslated'. -/
def fnTranslatedUptoCard : Claim7 := { stood := { row := fnTranslatedUptoRow, standIns := [], harness := (true, "f8cf99c91382419b063972145a5c8e64bc47432b068be4f0102268580ccaa2c5"), looks := true }, kinds := [], alts := [], laidByText := true, laidKinds := [.data, .pinned], laidTests := true, laidLooks := .later }
def FnTranslatedUptoCardSaid : Prop := Claim7.holds Tryd.pinned (.plain (OpenSpec.upto fnTranslatedSpec)) fnTranslatedUptoCard

/-- THE SECOND FORM's CARD OF 'laws.FnPatternsOther'. -/
def fnPatternsOtherUptoCard : Claim7 := { stood := { row := fnPatternsOtherUptoRow, standIns := [], harness := (true, "f8cf99c91382419b063972145a5c8e64bc47432b068be4f0102268580ccaa2c5"), looks := true }, kinds := [], alts := [], laidByText := true, laidKinds := [.data, .pinned], laidTests := true, laidLooks := .later }
def FnPatternsOtherUptoCardSaid : Prop := Claim7.holds Tryd.pinned (.plain (OpenSpec.upto fnPatternsOtherSpec)) fnPatternsOtherUptoCard

/-- THE SECOND FORM's CARD OF 'laws.FnSplitn'. -/
def fnSplitnUptoCard : Claim7 := { stood := { row := fnSplitnUptoRow, standIns := [], harness := (true, "f8cf99c91382419b063972145a5c8e64bc47432b068be4f0102268580ccaa2c5"), looks := true }, kinds := [], alts := [], laidByText := true, laidKinds := [.data, .data, .data, .data, .pinned], laidTests := true, laidLooks := .later }
def FnSplitnUptoCardSaid : Prop := Claim7.holds Tryd.pinned (.plain (OpenSpec.upto fnSplitnSpec)) fnSplitnUptoCard
end Rows
end Go.Proofs.YtjaeihbfkmflkaaDoor
