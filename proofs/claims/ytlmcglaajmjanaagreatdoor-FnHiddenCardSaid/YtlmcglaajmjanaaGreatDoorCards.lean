/-
  DERIVED. GIVEN WITH THE SEED: THE CARDS: each row of YtlmcglaajmjanaaGreatDoorRows.lean that lists a variable, with what it lists TIED to the program's text (the seventh form; the later family's looks); each row that meets fmt, with fmt's text TOLD by the authors' own Lean function (tested against real Go, not proved from fmt's source: count such statements apart). THE CARD IS WHAT COUNTS. Prove the row's statement (the work); the ties are given (YtlmcglaajmjanaaGreatDoorTie.lean); close each card by the builder's one call (the guide's Derived/Test/ToyasCard.lean, 'card_holds'). Laid BY PROGRAM, IN A SANDBOX (cutbox-door.mjs). By AI agents, Wed Nov 11 2026. No macro, syntax, notation, axiom, sorry.
-/
import Derived.Test.YtlmcglaajmjanaaGreatDoorRows
import GoSem.ClaimSeven
namespace Go.Proofs.YtlmcglaajmjanaaGreatDoor
namespace Rows

/-- THE TIED CARD OF 'laws.FnLeft'. -/
def fnLeftCard : Claim7 := { stood := { row := fnLeftRow, standIns := [], harness := (true, "ac9ea981fe1d14b07d9467d3ec7a8cbcc3a7d483ad2bf66f7d51b996cfdb0482"), looks := true }, kinds := [], alts := [], laidByText := true, laidKinds := [.data, .sentinel, .pinned, .pinned, .pinned, .pinned, .pinned, .pinned], laidTests := true, laidLooks := .later }
def FnLeftCardSaid : Prop := Claim7.holds Tryz.pinned (.plain (OpenSpec.ofChange fnLeftSpec)) fnLeftCard

/-- THE TIED CARD OF 'laws.FnSprint'. -/
def fnSprintCard : Claim7 := { stood := { row := fnSprintRow, standIns := [], harness := (true, "ac9ea981fe1d14b07d9467d3ec7a8cbcc3a7d483ad2bf66f7d51b996cfdb0482"), looks := true }, kinds := [], alts := [], laidByText := true, laidKinds := [.data, .sentinel, .pinned, .pinned, .pinned, .pinned, .pinned, .pinned], laidTests := true, laidLooks := .later }
def FnSprintCardSaid : Prop := Claim7.holds Tryz.pinned (.plain (OpenSpec.ofChange fnSprintSpec)) fnSprintCard

/-- THE TIED CARD OF 'laws.FnRedact'. -/
def fnRedactCard : Claim7 := { stood := { row := fnRedactRow, standIns := [], harness := (true, "ac9ea981fe1d14b07d9467d3ec7a8cbcc3a7d483ad2bf66f7d51b996cfdb0482"), looks := true }, kinds := [], alts := [], laidByText := true, laidKinds := [.data, .sentinel, .pinned, .pinned, .pinned, .pinned, .pinned, .pinned], laidTests := true, laidLooks := .later }
def FnRedactCardSaid : Prop := Claim7.holds Tryz.pinned (.plain (OpenSpec.ofChange fnRedactSpec)) fnRedactCard

/-- THE TIED CARD OF 'laws.FnJoin'. -/
def fnJoinCard : Claim7 := { stood := { row := fnJoinRow, standIns := [], harness := (true, "ac9ea981fe1d14b07d9467d3ec7a8cbcc3a7d483ad2bf66f7d51b996cfdb0482"), looks := true }, kinds := [], alts := [], laidByText := true, laidKinds := [.data, .sentinel, .pinned, .pinned, .pinned, .pinned, .pinned, .pinned], laidTests := true, laidLooks := .later }
def FnJoinCardSaid : Prop := Claim7.holds Tryz.pinned (.plain (OpenSpec.ofChange fnJoinSpec)) fnJoinCard

/-- THE TIED CARD OF 'laws.FnStripped'. -/
def fnStrippedCard : Claim7 := { stood := { row := fnStrippedRow, standIns := [], harness := (true, "ac9ea981fe1d14b07d9467d3ec7a8cbcc3a7d483ad2bf66f7d51b996cfdb0482"), looks := true }, kinds := [], alts := [], laidByText := true, laidKinds := [.data, .sentinel, .pinned, .pinned, .pinned, .pinned, .pinned, .pinned], laidTests := true, laidLooks := .later }
def FnStrippedCardSaid : Prop := Claim7.holds Tryz.pinned (.plain (OpenSpec.ofChange fnStrippedSpec)) fnStrippedCard

/-- THE TIED CARD OF 'laws.FnEscape'. -/
def fnEscapeCard : Claim7 := { stood := { row := fnEscapeRow, standIns := [], harness := (true, "ac9ea981fe1d14b07d9467d3ec7a8cbcc3a7d483ad2bf66f7d51b996cfdb0482"), looks := true }, kinds := [], alts := [], laidByText := true, laidKinds := [.data, .sentinel, .pinned, .pinned, .pinned, .pinned, .pinned, .pinned], laidTests := true, laidLooks := .later }
def FnEscapeCardSaid : Prop := Claim7.holds Tryz.pinned (.plain (OpenSpec.ofChange fnEscapeSpec)) fnEscapeCard

/-- THE TIED CARD OF 'laws.FnStrip'. -/
def fnStripCard : Claim7 := { stood := { row := fnStripRow, standIns := [], harness := (true, "ac9ea981fe1d14b07d9467d3ec7a8cbcc3a7d483ad2bf66f7d51b996cfdb0482"), looks := true }, kinds := [], alts := [], laidByText := true, laidKinds := [.data, .sentinel, .pinned, .pinned, .pinned, .pinned, .pinned, .pinned], laidTests := true, laidLooks := .later }
def FnStripCardSaid : Prop := Claim7.holds Tryz.pinned (.plain (OpenSpec.ofChange fnStripSpec)) fnStripCard

/-- THE TIED CARD OF 'laws.FnSprintf'. -/
def fnSprintfCard : Claim7 := { stood := { row := fnSprintfRow, standIns := [], harness := (true, "ac9ea981fe1d14b07d9467d3ec7a8cbcc3a7d483ad2bf66f7d51b996cfdb0482"), looks := true }, kinds := [], alts := [], laidByText := true, laidKinds := [.data, .sentinel, .pinned, .pinned, .pinned, .pinned, .pinned, .pinned], laidTests := true, laidLooks := .later }
def FnSprintfCardSaid : Prop := Claim7.holds Tryz.pinned (.plain (OpenSpec.ofChange fnSprintfSpec)) fnSprintfCard

/-- THE TIED CARD OF 'laws.FnBuild'. -/
def fnBuildCard : Claim7 := { stood := { row := fnBuildRow, standIns := [], harness := (true, "ac9ea981fe1d14b07d9467d3ec7a8cbcc3a7d483ad2bf66f7d51b996cfdb0482"), looks := true }, kinds := [], alts := [], laidByText := true, laidKinds := [.data, .sentinel, .pinned, .pinned, .pinned, .pinned, .pinned, .pinned], laidTests := true, laidLooks := .later }
def FnBuildCardSaid : Prop := Claim7.holds Tryz.pinned (.plain (OpenSpec.ofChange fnBuildSpec)) fnBuildCard

/-- THE TIED CARD OF 'laws.FnHidden'. -/
def fnHiddenCard : Claim7 := { stood := { row := fnHiddenRow, standIns := [], harness := (true, "ac9ea981fe1d14b07d9467d3ec7a8cbcc3a7d483ad2bf66f7d51b996cfdb0482"), looks := true }, kinds := [], alts := [], laidByText := true, laidKinds := [.data, .sentinel, .pinned, .pinned, .pinned, .pinned, .pinned, .pinned], laidTests := true, laidLooks := .later }
def FnHiddenCardSaid : Prop := Claim7.holds Tryz.pinned (.plain (OpenSpec.ofChange fnHiddenSpec)) fnHiddenCard

/-- THE SECOND FORM's CARD OF 'laws.FnLeft'. -/
def fnLeftUptoCard : Claim7 := { stood := { row := fnLeftUptoRow, standIns := [], harness := (true, "ac9ea981fe1d14b07d9467d3ec7a8cbcc3a7d483ad2bf66f7d51b996cfdb0482"), looks := true }, kinds := [], alts := [], laidByText := true, laidKinds := [.data, .sentinel, .pinned, .pinned, .pinned, .pinned, .pinned, .pinned], laidTests := true, laidLooks := .later }
def FnLeftUptoCardSaid : Prop := Claim7.holds Tryz.pinned (.plain (OpenSpec.upto fnLeftSpec)) fnLeftUptoCard

/-- THE SECOND FORM's CARD OF 'laws.FnSprint'. -/
def fnSprintUptoCard : Claim7 := { stood := { row := fnSprintUptoRow, standIns := [], harness := (true, "ac9ea981fe1d14b07d9467d3ec7a8cbcc3a7d483ad2bf66f7d51b996cfdb0482"), looks := true }, kinds := [], alts := [], laidByText := true, laidKinds := [.data, .sentinel, .pinned, .pinned, .pinned, .pinned, .pinned, .pinned], laidTests := true, laidLooks := .later }
def FnSprintUptoCardSaid : Prop := Claim7.holds Tryz.pinned (.plain (OpenSpec.upto fnSprintSpec)) fnSprintUptoCard

/-- THE SECOND FORM's CARD OF 'laws.FnRedact'. -/
def fnRedactUptoCard : Claim7 := { stood := { row := fnRedactUptoRow, standIns := [], harness := (true, "ac9ea981fe1d14b07d9467d3ec7a8cbcc3a7d483ad2bf66f7d51b996cfdb0482"), looks := true }, kinds := [], alts := [], laidByText := true, laidKinds := [.data, .sentinel, .pinned, .pinned, .pinned, .pinned, .pinned, .pinned], laidTests := true, laidLooks := .later }
def FnRedactUptoCardSaid : Prop := Claim7.holds Tryz.pinned (.plain (OpenSpec.upto fnRedactSpec)) fnRedactUptoCard

/-- THE SECOND FORM's CARD OF 'laws.FnJoin'. -/
def fnJoinUptoCard : Claim7 := { stood := { row := fnJoinUptoRow, standIns := [], harness := (true, "ac9ea981fe1d14b07d9467d3ec7a8cbcc3a7d483ad2bf66f7d51b996cfdb0482"), looks := true }, kinds := [], alts := [], laidByText := true, laidKinds := [.data, .sentinel, .pinned, .pinned, .pinned, .pinned, .pinned, .pinned], laidTests := true, laidLooks := .later }
def FnJoinUptoCardSaid : Prop := Claim7.holds Tryz.pinned (.plain (OpenSpec.upto fnJoinSpec)) fnJoinUptoCard

/-- THE SECOND FORM's CARD OF 'laws.FnStripped'. -/
def fnStrippedUptoCard : Claim7 := { stood := { row := fnStrippedUptoRow, standIns := [], harness := (true, "ac9ea981fe1d14b07d9467d3ec7a8cbcc3a7d483ad2bf66f7d51b996cfdb0482"), looks := true }, kinds := [], alts := [], laidByText := true, laidKinds := [.data, .sentinel, .pinned, .pinned, .pinned, .pinned, .pinned, .pinned], laidTests := true, laidLooks := .later }
def FnStrippedUptoCardSaid : Prop := Claim7.holds Tryz.pinned (.plain (OpenSpec.upto fnStrippedSpec)) fnStrippedUptoCard

/-- THE SECOND FORM's CARD OF 'laws.FnEscape'. -/
def fnEscapeUptoCard : Claim7 := { stood := { row := fnEscapeUptoRow, standIns := [], harness := (true, "ac9ea981fe1d14b07d9467d3ec7a8cbcc3a7d483ad2bf66f7d51b996cfdb0482"), looks := true }, kinds := [], alts := [], laidByText := true, laidKinds := [.data, .sentinel, .pinned, .pinned, .pinned, .pinned, .pinned, .pinned], laidTests := true, laidLooks := .later }
def FnEscapeUptoCardSaid : Prop := Claim7.holds Tryz.pinned (.plain (OpenSpec.upto fnEscapeSpec)) fnEscapeUptoCard

/-- THE SECOND FORM's CARD OF 'laws.FnStrip'. -/
def fnStripUptoCard : Claim7 := { stood := { row := fnStripUptoRow, standIns := [], harness := (true, "ac9ea981fe1d14b07d9467d3ec7a8cbcc3a7d483ad2bf66f7d51b996cfdb0482"), looks := true }, kinds := [], alts := [], laidByText := true, laidKinds := [.data, .sentinel, .pinned, .pinned, .pinned, .pinned, .pinned, .pinned], laidTests := true, laidLooks := .later }
def FnStripUptoCardSaid : Prop := Claim7.holds Tryz.pinned (.plain (OpenSpec.upto fnStripSpec)) fnStripUptoCard

/-- THE SECOND FORM's CARD OF 'laws.FnSprintf'. -/
def fnSprintfUptoCard : Claim7 := { stood := { row := fnSprintfUptoRow, standIns := [], harness := (true, "ac9ea981fe1d14b07d9467d3ec7a8cbcc3a7d483ad2bf66f7d51b996cfdb0482"), looks := true }, kinds := [], alts := [], laidByText := true, laidKinds := [.data, .sentinel, .pinned, .pinned, .pinned, .pinned, .pinned, .pinned], laidTests := true, laidLooks := .later }
def FnSprintfUptoCardSaid : Prop := Claim7.holds Tryz.pinned (.plain (OpenSpec.upto fnSprintfSpec)) fnSprintfUptoCard

/-- THE SECOND FORM's CARD OF 'laws.FnBuild'. -/
def fnBuildUptoCard : Claim7 := { stood := { row := fnBuildUptoRow, standIns := [], harness := (true, "ac9ea981fe1d14b07d9467d3ec7a8cbcc3a7d483ad2bf66f7d51b996cfdb0482"), looks := true }, kinds := [], alts := [], laidByText := true, laidKinds := [.data, .sentinel, .pinned, .pinned, .pinned, .pinned, .pinned, .pinned], laidTests := true, laidLooks := .later }
def FnBuildUptoCardSaid : Prop := Claim7.holds Tryz.pinned (.plain (OpenSpec.upto fnBuildSpec)) fnBuildUptoCard

/-- THE SECOND FORM's CARD OF 'laws.FnHidden'. -/
def fnHiddenUptoCard : Claim7 := { stood := { row := fnHiddenUptoRow, standIns := [], harness := (true, "ac9ea981fe1d14b07d9467d3ec7a8cbcc3a7d483ad2bf66f7d51b996cfdb0482"), looks := true }, kinds := [], alts := [], laidByText := true, laidKinds := [.data, .sentinel, .pinned, .pinned, .pinned, .pinned, .pinned, .pinned], laidTests := true, laidLooks := .later }
def FnHiddenUptoCardSaid : Prop := Claim7.holds Tryz.pinned (.plain (OpenSpec.upto fnHiddenSpec)) fnHiddenUptoCard
end Rows
end Go.Proofs.YtlmcglaajmjanaaGreatDoor
