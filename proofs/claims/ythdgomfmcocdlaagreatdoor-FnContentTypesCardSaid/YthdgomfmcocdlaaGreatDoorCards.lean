/-
  DERIVED. GIVEN WITH THE SEED: THE CARDS: each row of YthdgomfmcocdlaaGreatDoorRows.lean that lists a variable, with what it lists TIED to the program's text (the seventh form; the later family's looks); each row that meets fmt, with fmt's text TOLD by the authors' own Lean function (tested against real Go, not proved from fmt's source: count such statements apart). THE CARD IS WHAT COUNTS. Prove the row's statement (the work); the ties are given (YthdgomfmcocdlaaGreatDoorTie.lean); close each card by the builder's one call (the guide's Derived/Test/ToyasCard.lean, 'card_holds'). Laid BY PROGRAM, IN A SANDBOX (cutbox-door.mjs). By AI agents, Wed Nov 11 2026. No macro, syntax, notation, axiom, sorry.
-/
import Derived.Test.YthdgomfmcocdlaaGreatDoorRows
import GoSem.ClaimSeven
namespace Go.Proofs.YthdgomfmcocdlaaGreatDoor
namespace Rows

/-- THE TIED CARD OF 'laws.FnBase'. -/
def fnBaseCard : Claim7 := { stood := { row := fnBaseRow, standIns := [], harness := (true, "3507182a1dab38f9756fa1bae6ba7a8195e17b583a41ef5e7ed9cfc9b59a5003"), looks := false }, kinds := [], alts := [], laidByText := true, laidKinds := [.data, .pinned, .pinned], laidTests := true, laidLooks := .later }
def FnBaseCardSaid : Prop := Claim7.holds Tryz.pinned (.plain (OpenSpec.ofChange fnBaseSpec)) fnBaseCard

/-- THE TIED CARD OF 'laws.FnBasePage'. -/
def fnBasePageCard : Claim7 := { stood := { row := fnBasePageRow, standIns := [], harness := (true, "3507182a1dab38f9756fa1bae6ba7a8195e17b583a41ef5e7ed9cfc9b59a5003"), looks := false }, kinds := [], alts := [], laidByText := true, laidKinds := [.data, .pinned, .pinned], laidTests := true, laidLooks := .later }
def FnBasePageCardSaid : Prop := Claim7.holds Tryz.pinned (.plain (OpenSpec.ofChange fnBasePageSpec)) fnBasePageCard

/-- THE TIED CARD OF 'laws.FnBuiltCustom'. -/
def fnBuiltCustomCard : Claim7 := { stood := { row := fnBuiltCustomRow, standIns := [], harness := (true, "3507182a1dab38f9756fa1bae6ba7a8195e17b583a41ef5e7ed9cfc9b59a5003"), looks := false }, kinds := [], alts := [], laidByText := true, laidKinds := [.data, .pinned, .pinned], laidTests := true, laidLooks := .later }
def FnBuiltCustomCardSaid : Prop := Claim7.holds Tryz.pinned (.plain (OpenSpec.ofChange fnBuiltCustomSpec)) fnBuiltCustomCard

/-- THE TIED CARD OF 'laws.FnBaseReTypedBuilt'. -/
def fnBaseReTypedBuiltCard : Claim7 := { stood := { row := fnBaseReTypedBuiltRow, standIns := [], harness := (true, "3507182a1dab38f9756fa1bae6ba7a8195e17b583a41ef5e7ed9cfc9b59a5003"), looks := false }, kinds := [], alts := [], laidByText := true, laidKinds := [.data, .pinned, .pinned], laidTests := true, laidLooks := .later }
def FnBaseReTypedBuiltCardSaid : Prop := Claim7.holds Tryz.pinned (.plain (OpenSpec.ofChange fnBaseReTypedBuiltSpec)) fnBaseReTypedBuiltCard

/-- THE TIED CARD OF 'laws.FnBuiltData'. -/
def fnBuiltDataCard : Claim7 := { stood := { row := fnBuiltDataRow, standIns := [], harness := (true, "3507182a1dab38f9756fa1bae6ba7a8195e17b583a41ef5e7ed9cfc9b59a5003"), looks := false }, kinds := [], alts := [], laidByText := true, laidKinds := [.data, .pinned, .pinned], laidTests := true, laidLooks := .later }
def FnBuiltDataCardSaid : Prop := Claim7.holds Tryz.pinned (.plain (OpenSpec.ofChange fnBuiltDataSpec)) fnBuiltDataCard

/-- THE TIED CARD OF 'laws.FnBuiltLayout'. -/
def fnBuiltLayoutCard : Claim7 := { stood := { row := fnBuiltLayoutRow, standIns := [], harness := (true, "3507182a1dab38f9756fa1bae6ba7a8195e17b583a41ef5e7ed9cfc9b59a5003"), looks := false }, kinds := [], alts := [], laidByText := true, laidKinds := [.data, .pinned, .pinned], laidTests := true, laidLooks := .later }
def FnBuiltLayoutCardSaid : Prop := Claim7.holds Tryz.pinned (.plain (OpenSpec.ofChange fnBuiltLayoutSpec)) fnBuiltLayoutCard

/-- THE TIED CARD OF 'laws.FnBuiltPage'. -/
def fnBuiltPageCard : Claim7 := { stood := { row := fnBuiltPageRow, standIns := [], harness := (true, "3507182a1dab38f9756fa1bae6ba7a8195e17b583a41ef5e7ed9cfc9b59a5003"), looks := false }, kinds := [], alts := [], laidByText := true, laidKinds := [.data, .pinned, .pinned], laidTests := true, laidLooks := .later }
def FnBuiltPageCardSaid : Prop := Claim7.holds Tryz.pinned (.plain (OpenSpec.ofChange fnBuiltPageSpec)) fnBuiltPageCard

/-- THE TIED CARD OF 'laws.FnBuiltSorts'. -/
def fnBuiltSortsCard : Claim7 := { stood := { row := fnBuiltSortsRow, standIns := [], harness := (true, "3507182a1dab38f9756fa1bae6ba7a8195e17b583a41ef5e7ed9cfc9b59a5003"), looks := false }, kinds := [], alts := [], laidByText := true, laidKinds := [.data, .pinned, .pinned], laidTests := true, laidLooks := .later }
def FnBuiltSortsCardSaid : Prop := Claim7.holds Tryz.pinned (.plain (OpenSpec.ofChange fnBuiltSortsSpec)) fnBuiltSortsCard

/-- THE TIED CARD OF 'laws.FnContainer'. -/
def fnContainerCard : Claim7 := { stood := { row := fnContainerRow, standIns := [], harness := (true, "3507182a1dab38f9756fa1bae6ba7a8195e17b583a41ef5e7ed9cfc9b59a5003"), looks := false }, kinds := [], alts := [], laidByText := true, laidKinds := [.data, .pinned, .pinned], laidTests := true, laidLooks := .later }
def FnContainerCardSaid : Prop := Claim7.holds Tryz.pinned (.plain (OpenSpec.ofChange fnContainerSpec)) fnContainerCard

/-- THE TIED CARD OF 'laws.FnContainerLast'. -/
def fnContainerLastCard : Claim7 := { stood := { row := fnContainerLastRow, standIns := [], harness := (true, "3507182a1dab38f9756fa1bae6ba7a8195e17b583a41ef5e7ed9cfc9b59a5003"), looks := false }, kinds := [], alts := [], laidByText := true, laidKinds := [.data, .pinned, .pinned], laidTests := true, laidLooks := .later }
def FnContainerLastCardSaid : Prop := Claim7.holds Tryz.pinned (.plain (OpenSpec.ofChange fnContainerLastSpec)) fnContainerLastCard

/-- THE TIED CARD OF 'laws.FnContentTypes'. -/
def fnContentTypesCard : Claim7 := { stood := { row := fnContentTypesRow, standIns := [], harness := (true, "3507182a1dab38f9756fa1bae6ba7a8195e17b583a41ef5e7ed9cfc9b59a5003"), looks := false }, kinds := [], alts := [], laidByText := true, laidKinds := [.data, .pinned, .pinned], laidTests := true, laidLooks := .later }
def FnContentTypesCardSaid : Prop := Claim7.holds Tryz.pinned (.plain (OpenSpec.ofChange fnContentTypesSpec)) fnContentTypesCard

/-- THE TIED CARD OF 'laws.FnBaseRelBuilt'. -/
def fnBaseRelBuiltCard : Claim7 := { stood := { row := fnBaseRelBuiltRow, standIns := [], harness := (true, "3507182a1dab38f9756fa1bae6ba7a8195e17b583a41ef5e7ed9cfc9b59a5003"), looks := false }, kinds := [], alts := [], laidByText := true, laidKinds := [.data, .pinned, .pinned], laidTests := true, laidLooks := .later }
def FnBaseRelBuiltCardSaid : Prop := Claim7.holds Tryz.pinned (.plain (OpenSpec.ofChange fnBaseRelBuiltSpec)) fnBaseRelBuiltCard

/-- THE SECOND FORM's CARD OF 'laws.FnBase'. -/
def fnBaseUptoCard : Claim7 := { stood := { row := fnBaseUptoRow, standIns := [], harness := (true, "3507182a1dab38f9756fa1bae6ba7a8195e17b583a41ef5e7ed9cfc9b59a5003"), looks := false }, kinds := [], alts := [], laidByText := true, laidKinds := [.data, .pinned, .pinned], laidTests := true, laidLooks := .later }
def FnBaseUptoCardSaid : Prop := Claim7.holds Tryz.pinned (.plain (OpenSpec.upto fnBaseSpec)) fnBaseUptoCard

/-- THE SECOND FORM's CARD OF 'laws.FnBasePage'. -/
def fnBasePageUptoCard : Claim7 := { stood := { row := fnBasePageUptoRow, standIns := [], harness := (true, "3507182a1dab38f9756fa1bae6ba7a8195e17b583a41ef5e7ed9cfc9b59a5003"), looks := false }, kinds := [], alts := [], laidByText := true, laidKinds := [.data, .pinned, .pinned], laidTests := true, laidLooks := .later }
def FnBasePageUptoCardSaid : Prop := Claim7.holds Tryz.pinned (.plain (OpenSpec.upto fnBasePageSpec)) fnBasePageUptoCard

/-- THE SECOND FORM's CARD OF 'laws.FnBuiltCustom'. -/
def fnBuiltCustomUptoCard : Claim7 := { stood := { row := fnBuiltCustomUptoRow, standIns := [], harness := (true, "3507182a1dab38f9756fa1bae6ba7a8195e17b583a41ef5e7ed9cfc9b59a5003"), looks := false }, kinds := [], alts := [], laidByText := true, laidKinds := [.data, .pinned, .pinned], laidTests := true, laidLooks := .later }
def FnBuiltCustomUptoCardSaid : Prop := Claim7.holds Tryz.pinned (.plain (OpenSpec.upto fnBuiltCustomSpec)) fnBuiltCustomUptoCard

/-- THE SECOND FORM's CARD OF 'laws.FnBaseReTypedBuilt'. -/
def fnBaseReTypedBuiltUptoCard : Claim7 := { stood := { row := fnBaseReTypedBuiltUptoRow, standIns := [], harness := (true, "3507182a1dab38f9756fa1bae6ba7a8195e17b583a41ef5e7ed9cfc9b59a5003"), looks := false }, kinds := [], alts := [], laidByText := true, laidKinds := [.data, .pinned, .pinned], laidTests := true, laidLooks := .later }
def FnBaseReTypedBuiltUptoCardSaid : Prop := Claim7.holds Tryz.pinned (.plain (OpenSpec.upto fnBaseReTypedBuiltSpec)) fnBaseReTypedBuiltUptoCard

/-- THE SECOND FORM's CARD OF 'laws.FnBuiltData'. -/
def fnBuiltDataUptoCard : Claim7 := { stood := { row := fnBuiltDataUptoRow, standIns := [], harness := (true, "3507182a1dab38f9756fa1bae6ba7a8195e17b583a41ef5e7ed9cfc9b59a5003"), looks := false }, kinds := [], alts := [], laidByText := true, laidKinds := [.data, .pinned, .pinned], laidTests := true, laidLooks := .later }
def FnBuiltDataUptoCardSaid : Prop := Claim7.holds Tryz.pinned (.plain (OpenSpec.upto fnBuiltDataSpec)) fnBuiltDataUptoCard

/-- THE SECOND FORM's CARD OF 'laws.FnBuiltLayout'. -/
def fnBuiltLayoutUptoCard : Claim7 := { stood := { row := fnBuiltLayoutUptoRow, standIns := [], harness := (true, "3507182a1dab38f9756fa1bae6ba7a8195e17b583a41ef5e7ed9cfc9b59a5003"), looks := false }, kinds := [], alts := [], laidByText := true, laidKinds := [.data, .pinned, .pinned], laidTests := true, laidLooks := .later }
def FnBuiltLayoutUptoCardSaid : Prop := Claim7.holds Tryz.pinned (.plain (OpenSpec.upto fnBuiltLayoutSpec)) fnBuiltLayoutUptoCard

/-- THE SECOND FORM's CARD OF 'laws.FnBuiltPage'. -/
def fnBuiltPageUptoCard : Claim7 := { stood := { row := fnBuiltPageUptoRow, standIns := [], harness := (true, "3507182a1dab38f9756fa1bae6ba7a8195e17b583a41ef5e7ed9cfc9b59a5003"), looks := false }, kinds := [], alts := [], laidByText := true, laidKinds := [.data, .pinned, .pinned], laidTests := true, laidLooks := .later }
def FnBuiltPageUptoCardSaid : Prop := Claim7.holds Tryz.pinned (.plain (OpenSpec.upto fnBuiltPageSpec)) fnBuiltPageUptoCard

/-- THE SECOND FORM's CARD OF 'laws.FnBuiltSorts'. -/
def fnBuiltSortsUptoCard : Claim7 := { stood := { row := fnBuiltSortsUptoRow, standIns := [], harness := (true, "3507182a1dab38f9756fa1bae6ba7a8195e17b583a41ef5e7ed9cfc9b59a5003"), looks := false }, kinds := [], alts := [], laidByText := true, laidKinds := [.data, .pinned, .pinned], laidTests := true, laidLooks := .later }
def FnBuiltSortsUptoCardSaid : Prop := Claim7.holds Tryz.pinned (.plain (OpenSpec.upto fnBuiltSortsSpec)) fnBuiltSortsUptoCard

/-- THE SECOND FORM's CARD OF 'laws.FnContainer'. -/
def fnContainerUptoCard : Claim7 := { stood := { row := fnContainerUptoRow, standIns := [], harness := (true, "3507182a1dab38f9756fa1bae6ba7a8195e17b583a41ef5e7ed9cfc9b59a5003"), looks := false }, kinds := [], alts := [], laidByText := true, laidKinds := [.data, .pinned, .pinned], laidTests := true, laidLooks := .later }
def FnContainerUptoCardSaid : Prop := Claim7.holds Tryz.pinned (.plain (OpenSpec.upto fnContainerSpec)) fnContainerUptoCard

/-- THE SECOND FORM's CARD OF 'laws.FnContainerLast'. -/
def fnContainerLastUptoCard : Claim7 := { stood := { row := fnContainerLastUptoRow, standIns := [], harness := (true, "3507182a1dab38f9756fa1bae6ba7a8195e17b583a41ef5e7ed9cfc9b59a5003"), looks := false }, kinds := [], alts := [], laidByText := true, laidKinds := [.data, .pinned, .pinned], laidTests := true, laidLooks := .later }
def FnContainerLastUptoCardSaid : Prop := Claim7.holds Tryz.pinned (.plain (OpenSpec.upto fnContainerLastSpec)) fnContainerLastUptoCard

/-- THE SECOND FORM's CARD OF 'laws.FnContentTypes'. -/
def fnContentTypesUptoCard : Claim7 := { stood := { row := fnContentTypesUptoRow, standIns := [], harness := (true, "3507182a1dab38f9756fa1bae6ba7a8195e17b583a41ef5e7ed9cfc9b59a5003"), looks := false }, kinds := [], alts := [], laidByText := true, laidKinds := [.data, .pinned, .pinned], laidTests := true, laidLooks := .later }
def FnContentTypesUptoCardSaid : Prop := Claim7.holds Tryz.pinned (.plain (OpenSpec.upto fnContentTypesSpec)) fnContentTypesUptoCard

/-- THE SECOND FORM's CARD OF 'laws.FnBaseRelBuilt'. -/
def fnBaseRelBuiltUptoCard : Claim7 := { stood := { row := fnBaseRelBuiltUptoRow, standIns := [], harness := (true, "3507182a1dab38f9756fa1bae6ba7a8195e17b583a41ef5e7ed9cfc9b59a5003"), looks := false }, kinds := [], alts := [], laidByText := true, laidKinds := [.data, .pinned, .pinned], laidTests := true, laidLooks := .later }
def FnBaseRelBuiltUptoCardSaid : Prop := Claim7.holds Tryz.pinned (.plain (OpenSpec.upto fnBaseRelBuiltSpec)) fnBaseRelBuiltUptoCard
end Rows
end Go.Proofs.YthdgomfmcocdlaaGreatDoor
