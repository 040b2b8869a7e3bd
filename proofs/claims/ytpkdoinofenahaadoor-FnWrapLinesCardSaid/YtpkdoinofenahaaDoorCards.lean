/-
  DERIVED. GIVEN WITH THE SEED: THE CARDS: each row of YtpkdoinofenahaaDoorRows.lean that lists a variable, with what it lists TIED to the program's text (the seventh form; the later family's looks); each row that meets fmt, with fmt's text TOLD by the authors' own Lean function (tested against real Go, not proved from fmt's source: count such statements apart). THE CARD IS WHAT COUNTS. Prove the row's statement (the work); the ties are given (YtpkdoinofenahaaDoorTie.lean); close each card by the builder's one call (the guide's Derived/Test/ToyasCard.lean, 'card_holds'). Laid BY PROGRAM, IN A SANDBOX (cutbox-door.mjs). By AI agents, Wed Nov 11 2026. No macro, syntax, notation, axiom, sorry.
-/
import Derived.Test.YtpkdoinofenahaaDoorRows
import GoSem.ClaimSeven
namespace Go.Proofs.YtpkdoinofenahaaDoor
namespace Rows

/-- THE TIED CARD OF 'laws.FnScrub'. -/
def fnScrubCard : Claim7 := { stood := { row := fnScrubRow, standIns := [], harness := (true, "b3b92789081e4a375fe77362ef2af62df5ecb9de2526bf094223af602be967e9"), looks := false }, kinds := [], alts := [], laidByText := true, laidKinds := [.data, .pinned], laidTests := true, laidLooks := .later }
def FnScrubCardSaid : Prop := Claim7.holds Tryd.pinned (.plain (OpenSpec.ofChange fnScrubSpec)) fnScrubCard

/-- THE TIED CARD OF 'laws.FnJustified'. -/
def fnJustifiedCard : Claim7 := { stood := { row := fnJustifiedRow, standIns := [], harness := (true, "b3b92789081e4a375fe77362ef2af62df5ecb9de2526bf094223af602be967e9"), looks := false }, kinds := [], alts := [], laidByText := true, laidKinds := [.data, .pinned], laidTests := true, laidLooks := .later }
def FnJustifiedCardSaid : Prop := Claim7.holds Tryd.pinned (.plain (OpenSpec.ofChange fnJustifiedSpec)) fnJustifiedCard

/-- THE TIED CARD OF 'laws.FnFirst'. -/
def fnFirstCard : Claim7 := { stood := { row := fnFirstRow, standIns := [], harness := (true, "b3b92789081e4a375fe77362ef2af62df5ecb9de2526bf094223af602be967e9"), looks := false }, kinds := [], alts := [], laidByText := true, laidKinds := [.data, .pinned, .pinned], laidTests := true, laidLooks := .later }
def FnFirstCardSaid : Prop := Claim7.holds Tryd.pinned (.plain (OpenSpec.ofChange fnFirstSpec)) fnFirstCard

/-- THE TIED CARD OF 'laws.FnSwapCase'. -/
def fnSwapCaseCard : Claim7 := { stood := { row := fnSwapCaseRow, standIns := [], harness := (true, "b3b92789081e4a375fe77362ef2af62df5ecb9de2526bf094223af602be967e9"), looks := false }, kinds := [], alts := [], laidByText := true, laidKinds := [.listed, .listed, .data, .pinned, .pinned, .pinned], laidTests := true, laidLooks := .later }
def FnSwapCaseCardSaid : Prop := Claim7.holds Tryd.pinned (.plain (OpenSpec.ofChange fnSwapCaseSpec)) fnSwapCaseCard

/-- THE TIED CARD OF 'laws.FnWrapCustom'. -/
def fnWrapCustomCard : Claim7 := { stood := { row := fnWrapCustomRow, standIns := [], harness := (true, "b3b92789081e4a375fe77362ef2af62df5ecb9de2526bf094223af602be967e9"), looks := false }, kinds := [], alts := [], laidByText := true, laidKinds := [.sentinel], laidTests := true, laidLooks := .later }
def FnWrapCustomCardSaid : Prop := Claim7.holds Tryd.pinned (.plain (OpenSpec.ofChange fnWrapCustomSpec)) fnWrapCustomCard

/-- THE TIED CARD OF 'laws.FnWrapLines'. -/
def fnWrapLinesCard : Claim7 := { stood := { row := fnWrapLinesRow, standIns := [], harness := (true, "b3b92789081e4a375fe77362ef2af62df5ecb9de2526bf094223af602be967e9"), looks := false }, kinds := [], alts := [], laidByText := true, laidKinds := [.sentinel], laidTests := true, laidLooks := .later }
def FnWrapLinesCardSaid : Prop := Claim7.holds Tryd.pinned (.plain (OpenSpec.ofChange fnWrapLinesSpec)) fnWrapLinesCard

/-- THE TIED CARD OF 'laws.FnInitialsBy'. -/
def fnInitialsByCard : Claim7 := { stood := { row := fnInitialsByRow, standIns := [], harness := (true, "b3b92789081e4a375fe77362ef2af62df5ecb9de2526bf094223af602be967e9"), looks := false }, kinds := [], alts := [], laidByText := true, laidKinds := [.listed, .sentinel], laidTests := true, laidLooks := .later }
def FnInitialsByCardSaid : Prop := Claim7.holds Tryd.pinned (.plain (OpenSpec.ofChange fnInitialsBySpec)) fnInitialsByCard

/-- THE TIED CARD OF 'laws.FnSwapAll'. -/
def fnSwapAllCard : Claim7 := { stood := { row := fnSwapAllRow, standIns := [], harness := (true, "b3b92789081e4a375fe77362ef2af62df5ecb9de2526bf094223af602be967e9"), looks := false }, kinds := [], alts := [], laidByText := true, laidKinds := [.data, .data, .pinned, .pinned, .pinned, .pinned], laidTests := true, laidLooks := .later }
def FnSwapAllCardSaid : Prop := Claim7.holds Tryd.pinned (.plain (OpenSpec.ofChange fnSwapAllSpec)) fnSwapAllCard

/-- THE TIED CARD OF 'laws.FnCamelLow'. -/
def fnCamelLowCard : Claim7 := { stood := { row := fnCamelLowRow, standIns := [], harness := (true, "b3b92789081e4a375fe77362ef2af62df5ecb9de2526bf094223af602be967e9"), looks := false }, kinds := [], alts := [], laidByText := true, laidKinds := [.data, .listed, .data, .pinned, .pinned, .pinned], laidTests := true, laidLooks := .later }
def FnCamelLowCardSaid : Prop := Claim7.holds Tryd.pinned (.plain (OpenSpec.ofChange fnCamelLowSpec)) fnCamelLowCard

/-- THE TIED CARD OF 'laws.FnTitle'. -/
def fnTitleCard : Claim7 := { stood := { row := fnTitleRow, standIns := [], harness := (true, "b3b92789081e4a375fe77362ef2af62df5ecb9de2526bf094223af602be967e9"), looks := false }, kinds := [], alts := [], laidByText := true, laidKinds := [.data, .listed, .data, .pinned, .pinned, .pinned, .pinned], laidTests := true, laidLooks := .later }
def FnTitleCardSaid : Prop := Claim7.holds Tryd.pinned (.plain (OpenSpec.ofChange fnTitleSpec)) fnTitleCard

/-- THE SECOND FORM's CARD OF 'laws.FnScrub'. -/
def fnScrubUptoCard : Claim7 := { stood := { row := fnScrubUptoRow, standIns := [], harness := (true, "b3b92789081e4a375fe77362ef2af62df5ecb9de2526bf094223af602be967e9"), looks := false }, kinds := [], alts := [], laidByText := true, laidKinds := [.data, .pinned], laidTests := true, laidLooks := .later }
def FnScrubUptoCardSaid : Prop := Claim7.holds Tryd.pinned (.plain (OpenSpec.upto fnScrubSpec)) fnScrubUptoCard

/-- THE SECOND FORM's CARD OF 'laws.FnJustified'. -/
def fnJustifiedUptoCard : Claim7 := { stood := { row := fnJustifiedUptoRow, standIns := [], harness := (true, "b3b92789081e4a375fe77362ef2af62df5ecb9de2526bf094223af602be967e9"), looks := false }, kinds := [], alts := [], laidByText := true, laidKinds := [.data, .pinned], laidTests := true, laidLooks := .later }
def FnJustifiedUptoCardSaid : Prop := Claim7.holds Tryd.pinned (.plain (OpenSpec.upto fnJustifiedSpec)) fnJustifiedUptoCard

/-- THE SECOND FORM's CARD OF 'laws.FnFirst'. -/
def fnFirstUptoCard : Claim7 := { stood := { row := fnFirstUptoRow, standIns := [], harness := (true, "b3b92789081e4a375fe77362ef2af62df5ecb9de2526bf094223af602be967e9"), looks := false }, kinds := [], alts := [], laidByText := true, laidKinds := [.data, .pinned, .pinned], laidTests := true, laidLooks := .later }
def FnFirstUptoCardSaid : Prop := Claim7.holds Tryd.pinned (.plain (OpenSpec.upto fnFirstSpec)) fnFirstUptoCard

/-- THE SECOND FORM's CARD OF 'laws.FnSwapCase'. -/
def fnSwapCaseUptoCard : Claim7 := { stood := { row := fnSwapCaseUptoRow, standIns := [], harness := (true, "b3b92789081e4a375fe77362ef2af62df5ecb9de2526bf094223af602be967e9"), looks := false }, kinds := [], alts := [], laidByText := true, laidKinds := [.listed, .listed, .data, .pinned, .pinned, .pinned], laidTests := true, laidLooks := .later }
def FnSwapCaseUptoCardSaid : Prop := Claim7.holds Tryd.pinned (.plain (OpenSpec.upto fnSwapCaseSpec)) fnSwapCaseUptoCard

/-- THE SECOND FORM's CARD OF 'laws.FnWrapCustom'. -/
def fnWrapCustomUptoCard : Claim7 := { stood := { row := fnWrapCustomUptoRow, standIns := [], harness := (true, "b3b92789081e4a375fe77362ef2af62df5ecb9de2526bf094223af602be967e9"), looks := false }, kinds := [], alts := [], laidByText := true, laidKinds := [.sentinel], laidTests := true, laidLooks := .later }
def FnWrapCustomUptoCardSaid : Prop := Claim7.holds Tryd.pinned (.plain (OpenSpec.upto fnWrapCustomSpec)) fnWrapCustomUptoCard

/-- THE SECOND FORM's CARD OF 'laws.FnWrapLines'. -/
def fnWrapLinesUptoCard : Claim7 := { stood := { row := fnWrapLinesUptoRow, standIns := [], harness := (true, "b3b92789081e4a375fe77362ef2af62df5ecb9de2526bf094223af602be967e9"), looks := false }, kinds := [], alts := [], laidByText := true, laidKinds := [.sentinel], laidTests := true, laidLooks := .later }
def FnWrapLinesUptoCardSaid : Prop := Claim7.holds Tryd.pinned (.plain (OpenSpec.upto fnWrapLinesSpec)) fnWrapLinesUptoCard

/-- THE SECOND FORM's CARD OF 'laws.FnInitialsBy'. -/
def fnInitialsByUptoCard : Claim7 := { stood := { row := fnInitialsByUptoRow, standIns := [], harness := (true, "b3b92789081e4a375fe77362ef2af62df5ecb9de2526bf094223af602be967e9"), looks := false }, kinds := [], alts := [], laidByText := true, laidKinds := [.listed, .sentinel], laidTests := true, laidLooks := .later }
def FnInitialsByUptoCardSaid : Prop := Claim7.holds Tryd.pinned (.plain (OpenSpec.upto fnInitialsBySpec)) fnInitialsByUptoCard

/-- THE SECOND FORM's CARD OF 'laws.FnSwapAll'. -/
def fnSwapAllUptoCard : Claim7 := { stood := { row := fnSwapAllUptoRow, standIns := [], harness := (true, "b3b92789081e4a375fe77362ef2af62df5ecb9de2526bf094223af602be967e9"), looks := false }, kinds := [], alts := [], laidByText := true, laidKinds := [.data, .data, .pinned, .pinned, .pinned, .pinned], laidTests := true, laidLooks := .later }
def FnSwapAllUptoCardSaid : Prop := Claim7.holds Tryd.pinned (.plain (OpenSpec.upto fnSwapAllSpec)) fnSwapAllUptoCard

/-- THE SECOND FORM's CARD OF 'laws.FnCamelLow'. -/
def fnCamelLowUptoCard : Claim7 := { stood := { row := fnCamelLowUptoRow, standIns := [], harness := (true, "b3b92789081e4a375fe77362ef2af62df5ecb9de2526bf094223af602be967e9"), looks := false }, kinds := [], alts := [], laidByText := true, laidKinds := [.data, .listed, .data, .pinned, .pinned, .pinned], laidTests := true, laidLooks := .later }
def FnCamelLowUptoCardSaid : Prop := Claim7.holds Tryd.pinned (.plain (OpenSpec.upto fnCamelLowSpec)) fnCamelLowUptoCard

/-- THE SECOND FORM's CARD OF 'laws.FnTitle'. -/
def fnTitleUptoCard : Claim7 := { stood := { row := fnTitleUptoRow, standIns := [], harness := (true, "b3b92789081e4a375fe77362ef2af62df5ecb9de2526bf094223af602be967e9"), looks := false }, kinds := [], alts := [], laidByText := true, laidKinds := [.data, .listed, .data, .pinned, .pinned, .pinned, .pinned], laidTests := true, laidLooks := .later }
def FnTitleUptoCardSaid : Prop := Claim7.holds Tryd.pinned (.plain (OpenSpec.upto fnTitleSpec)) fnTitleUptoCard
end Rows
end Go.Proofs.YtpkdoinofenahaaDoor
