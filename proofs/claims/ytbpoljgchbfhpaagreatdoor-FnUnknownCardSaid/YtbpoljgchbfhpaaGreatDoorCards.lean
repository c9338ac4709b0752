/-
  DERIVED. GIVEN WITH THE SEED: THE CARDS: each row of YtbpoljgchbfhpaaGreatDoorRows.lean that lists a variable, with what it lists TIED to the program's text (the seventh form; the later family's looks); each row that meets fmt, with fmt's text TOLD by the authors' own Lean function (tested against real Go, not proved from fmt's source: count such statements apart). THE CARD IS WHAT COUNTS. Prove the row's statement (the work); the ties are given (YtbpoljgchbfhpaaGreatDoorTie.lean); close each card by the builder's one call (the guide's Derived/Test/ToyasCard.lean, 'card_holds'). Laid BY PROGRAM, IN A SANDBOX (cutbox-door.mjs). By AI agents, Wed Nov 11 2026. No macro, syntax, notation, axiom, sorry.
-/
import Derived.Test.YtbpoljgchbfhpaaGreatDoorRows
import GoSem.ClaimSeven
namespace Go.Proofs.YtbpoljgchbfhpaaGreatDoor
namespace Rows

/-- THE TIED CARD OF 'laws.FnIsBranch'. -/
def fnIsBranchCard : Claim7 := { stood := { row := fnIsBranchRow, standIns := [], harness := (true, "81e09fea8352ae596f436daeee3d2cd2853e5d487a6c459a3aa30ed7d8cdad96"), looks := false }, kinds := [], alts := [], laidByText := true, laidKinds := [.data, .pinned, .pinned], laidTests := true, laidLooks := .later }
def FnIsBranchCardSaid : Prop := Claim7.holds Tryz.pinned (.plain (OpenSpec.ofChange fnIsBranchSpec)) fnIsBranchCard

/-- THE TIED CARD OF 'laws.FnIsContent'. -/
def fnIsContentCard : Claim7 := { stood := { row := fnIsContentRow, standIns := [], harness := (true, "81e09fea8352ae596f436daeee3d2cd2853e5d487a6c459a3aa30ed7d8cdad96"), looks := false }, kinds := [], alts := [], laidByText := true, laidKinds := [.data, .pinned, .pinned], laidTests := true, laidLooks := .later }
def FnIsContentCardSaid : Prop := Claim7.holds Tryz.pinned (.plain (OpenSpec.ofChange fnIsContentSpec)) fnIsContentCard

/-- THE TIED CARD OF 'laws.FnIsContentData'. -/
def fnIsContentDataCard : Claim7 := { stood := { row := fnIsContentDataRow, standIns := [], harness := (true, "81e09fea8352ae596f436daeee3d2cd2853e5d487a6c459a3aa30ed7d8cdad96"), looks := false }, kinds := [], alts := [], laidByText := true, laidKinds := [.data, .pinned, .pinned], laidTests := true, laidLooks := .later }
def FnIsContentDataCardSaid : Prop := Claim7.holds Tryz.pinned (.plain (OpenSpec.ofChange fnIsContentDataSpec)) fnIsContentDataCard

/-- THE TIED CARD OF 'laws.FnKind'. -/
def fnKindCard : Claim7 := { stood := { row := fnKindRow, standIns := [], harness := (true, "81e09fea8352ae596f436daeee3d2cd2853e5d487a6c459a3aa30ed7d8cdad96"), looks := false }, kinds := [], alts := [], laidByText := true, laidKinds := [.data, .pinned, .pinned], laidTests := true, laidLooks := .later }
def FnKindCardSaid : Prop := Claim7.holds Tryz.pinned (.plain (OpenSpec.ofChange fnKindSpec)) fnKindCard

/-- THE TIED CARD OF 'laws.FnLang'. -/
def fnLangCard : Claim7 := { stood := { row := fnLangRow, standIns := [], harness := (true, "81e09fea8352ae596f436daeee3d2cd2853e5d487a6c459a3aa30ed7d8cdad96"), looks := false }, kinds := [], alts := [], laidByText := true, laidKinds := [.data, .pinned, .pinned], laidTests := true, laidLooks := .later }
def FnLangCardSaid : Prop := Claim7.holds Tryz.pinned (.plain (OpenSpec.ofChange fnLangSpec)) fnLangCard

/-- THE TIED CARD OF 'laws.FnLangs'. -/
def fnLangsCard : Claim7 := { stood := { row := fnLangsRow, standIns := [], harness := (true, "81e09fea8352ae596f436daeee3d2cd2853e5d487a6c459a3aa30ed7d8cdad96"), looks := false }, kinds := [], alts := [], laidByText := true, laidKinds := [.data, .pinned, .pinned], laidTests := true, laidLooks := .later }
def FnLangsCardSaid : Prop := Claim7.holds Tryz.pinned (.plain (OpenSpec.ofChange fnLangsSpec)) fnLangsCard

/-- THE TIED CARD OF 'laws.FnNameNoExt'. -/
def fnNameNoExtCard : Claim7 := { stood := { row := fnNameNoExtRow, standIns := [], harness := (true, "81e09fea8352ae596f436daeee3d2cd2853e5d487a6c459a3aa30ed7d8cdad96"), looks := false }, kinds := [], alts := [], laidByText := true, laidKinds := [.data, .pinned, .pinned], laidTests := true, laidLooks := .later }
def FnNameNoExtCardSaid : Prop := Claim7.holds Tryz.pinned (.plain (OpenSpec.ofChange fnNameNoExtSpec)) fnNameNoExtCard

/-- THE TIED CARD OF 'laws.FnNameNoIdentifier'. -/
def fnNameNoIdentifierCard : Claim7 := { stood := { row := fnNameNoIdentifierRow, standIns := [], harness := (true, "81e09fea8352ae596f436daeee3d2cd2853e5d487a6c459a3aa30ed7d8cdad96"), looks := false }, kinds := [], alts := [], laidByText := true, laidKinds := [.data, .pinned, .pinned], laidTests := true, laidLooks := .later }
def FnNameNoIdentifierCardSaid : Prop := Claim7.holds Tryz.pinned (.plain (OpenSpec.ofChange fnNameNoIdentifierSpec)) fnNameNoIdentifierCard

/-- THE TIED CARD OF 'laws.FnPath'. -/
def fnPathCard : Claim7 := { stood := { row := fnPathRow, standIns := [], harness := (true, "81e09fea8352ae596f436daeee3d2cd2853e5d487a6c459a3aa30ed7d8cdad96"), looks := false }, kinds := [], alts := [], laidByText := true, laidKinds := [.data, .pinned, .pinned], laidTests := true, laidLooks := .later }
def FnPathCardSaid : Prop := Claim7.holds Tryz.pinned (.plain (OpenSpec.ofChange fnPathSpec)) fnPathCard

/-- THE TIED CARD OF 'laws.FnPathNoIdentifier'. -/
def fnPathNoIdentifierCard : Claim7 := { stood := { row := fnPathNoIdentifierRow, standIns := [], harness := (true, "81e09fea8352ae596f436daeee3d2cd2853e5d487a6c459a3aa30ed7d8cdad96"), looks := false }, kinds := [], alts := [], laidByText := true, laidKinds := [.data, .pinned, .pinned], laidTests := true, laidLooks := .later }
def FnPathNoIdentifierCardSaid : Prop := Claim7.holds Tryz.pinned (.plain (OpenSpec.ofChange fnPathNoIdentifierSpec)) fnPathNoIdentifierCard

/-- THE TIED CARD OF 'laws.FnSection'. -/
def fnSectionCard : Claim7 := { stood := { row := fnSectionRow, standIns := [], harness := (true, "81e09fea8352ae596f436daeee3d2cd2853e5d487a6c459a3aa30ed7d8cdad96"), looks := false }, kinds := [], alts := [], laidByText := true, laidKinds := [.data, .pinned, .pinned], laidTests := true, laidLooks := .later }
def FnSectionCardSaid : Prop := Claim7.holds Tryz.pinned (.plain (OpenSpec.ofChange fnSectionSpec)) fnSectionCard

/-- THE TIED CARD OF 'laws.FnUnknown'. -/
def fnUnknownCard : Claim7 := { stood := { row := fnUnknownRow, standIns := [], harness := (true, "81e09fea8352ae596f436daeee3d2cd2853e5d487a6c459a3aa30ed7d8cdad96"), looks := false }, kinds := [], alts := [], laidByText := true, laidKinds := [.data, .pinned, .pinned], laidTests := true, laidLooks := .later }
def FnUnknownCardSaid : Prop := Claim7.holds Tryz.pinned (.plain (OpenSpec.ofChange fnUnknownSpec)) fnUnknownCard

/-- THE SECOND FORM's CARD OF 'laws.FnIsBranch'. -/
def fnIsBranchUptoCard : Claim7 := { stood := { row := fnIsBranchUptoRow, standIns := [], harness := (true, "81e09fea8352ae596f436daeee3d2cd2853e5d487a6c459a3aa30ed7d8cdad96"), looks := false }, kinds := [], alts := [], laidByText := true, laidKinds := [.data, .pinned, .pinned], laidTests := true, laidLooks := .later }
def FnIsBranchUptoCardSaid : Prop := Claim7.holds Tryz.pinned (.plain (OpenSpec.upto fnIsBranchSpec)) fnIsBranchUptoCard

/-- THE SECOND FORM's CARD OF 'laws.FnIsContent'. -/
def fnIsContentUptoCard : Claim7 := { stood := { row := fnIsContentUptoRow, standIns := [], harness := (true, "81e09fea8352ae596f436daeee3d2cd2853e5d487a6c459a3aa30ed7d8cdad96"), looks := false }, kinds := [], alts := [], laidByText := true, laidKinds := [.data, .pinned, .pinned], laidTests := true, laidLooks := .later }
def FnIsContentUptoCardSaid : Prop := Claim7.holds Tryz.pinned (.plain (OpenSpec.upto fnIsContentSpec)) fnIsContentUptoCard

/-- THE SECOND FORM's CARD OF 'laws.FnIsContentData'. -/
def fnIsContentDataUptoCard : Claim7 := { stood := { row := fnIsContentDataUptoRow, standIns := [], harness := (true, "81e09fea8352ae596f436daeee3d2cd2853e5d487a6c459a3aa30ed7d8cdad96"), looks := false }, kinds := [], alts := [], laidByText := true, laidKinds := [.data, .pinned, .pinned], laidTests := true, laidLooks := .later }
def FnIsContentDataUptoCardSaid : Prop := Claim7.holds Tryz.pinned (.plain (OpenSpec.upto fnIsContentDataSpec)) fnIsContentDataUptoCard

/-- THE SECOND FORM's CARD OF 'laws.FnKind'. -/
def fnKindUptoCard : Claim7 := { stood := { row := fnKindUptoRow, standIns := [], harness := (true, "81e09fea8352ae596f436daeee3d2cd2853e5d487a6c459a3aa30ed7d8cdad96"), looks := false }, kinds := [], alts := [], laidByText := true, laidKinds := [.data, .pinned, .pinned], laidTests := true, laidLooks := .later }
def FnKindUptoCardSaid : Prop := Claim7.holds Tryz.pinned (.plain (OpenSpec.upto fnKindSpec)) fnKindUptoCard

/-- THE SECOND FORM's CARD OF 'laws.FnLang'. -/
def fnLangUptoCard : Claim7 := { stood := { row := fnLangUptoRow, standIns := [], harness := (true, "81e09fea8352ae596f436daeee3d2cd2853e5d487a6c459a3aa30ed7d8cdad96"), looks := false }, kinds := [], alts := [], laidByText := true, laidKinds := [.data, .pinned, .pinned], laidTests := true, laidLooks := .later }
def FnLangUptoCardSaid : Prop := Claim7.holds Tryz.pinned (.plain (OpenSpec.upto fnLangSpec)) fnLangUptoCard

/-- THE SECOND FORM's CARD OF 'laws.FnLangs'. -/
def fnLangsUptoCard : Claim7 := { stood := { row := fnLangsUptoRow, standIns := [], harness := (true, "81e09fea8352ae596f436daeee3d2cd2853e5d487a6c459a3aa30ed7d8cdad96"), looks := false }, kinds := [], alts := [], laidByText := true, laidKinds := [.data, .pinned, .pinned], laidTests := true, laidLooks := .later }
def FnLangsUptoCardSaid : Prop := Claim7.holds Tryz.pinned (.plain (OpenSpec.upto fnLangsSpec)) fnLangsUptoCard

/-- THE SECOND FORM's CARD OF 'laws.FnNameNoExt'. -/
def fnNameNoExtUptoCard : Claim7 := { stood := { row := fnNameNoExtUptoRow, standIns := [], harness := (true, "81e09fea8352ae596f436daeee3d2cd2853e5d487a6c459a3aa30ed7d8cdad96"), looks := false }, kinds := [], alts := [], laidByText := true, laidKinds := [.data, .pinned, .pinned], laidTests := true, laidLooks := .later }
def FnNameNoExtUptoCardSaid : Prop := Claim7.holds Tryz.pinned (.plain (OpenSpec.upto fnNameNoExtSpec)) fnNameNoExtUptoCard

/-- THE SECOND FORM's CARD OF 'laws.FnNameNoIdentifier'. -/
def fnNameNoIdentifierUptoCard : Claim7 := { stood := { row := fnNameNoIdentifierUptoRow, standIns := [], harness := (true, "81e09fea8352ae596f436daeee3d2cd2853e5d487a6c459a3aa30ed7d8cdad96"), looks := false }, kinds := [], alts := [], laidByText := true, laidKinds := [.data, .pinned, .pinned], laidTests := true, laidLooks := .later }
def FnNameNoIdentifierUptoCardSaid : Prop := Claim7.holds Tryz.pinned (.plain (OpenSpec.upto fnNameNoIdentifierSpec)) fnNameNoIdentifierUptoCard

/-- THE SECOND FORM's CARD OF 'laws.FnPath'. -/
def fnPathUptoCard : Claim7 := { stood := { row := fnPathUptoRow, standIns := [], harness := (true, "81e09fea8352ae596f436daeee3d2cd2853e5d487a6c459a3aa30ed7d8cdad96"), looks := false }, kinds := [], alts := [], laidByText := true, laidKinds := [.data, .pinned, .pinned], laidTests := true, laidLooks := .later }
def FnPathUptoCardSaid : Prop := Claim7.holds Tryz.pinned (.plain (OpenSpec.upto fnPathSpec)) fnPathUptoCard

/-- THE SECOND FORM's CARD OF 'laws.FnPathNoIdentifier'. -/
def fnPathNoIdentifierUptoCard : Claim7 := { stood := { row := fnPathNoIdentifierUptoRow, standIns := [], harness := (true, "81e09fea8352ae596f436daeee3d2cd2853e5d487a6c459a3aa30ed7d8cdad96"), looks := false }, kinds := [], alts := [], laidByText := true, laidKinds := [.data, .pinned, .pinned], laidTests := true, laidLooks := .later }
def FnPathNoIdentifierUptoCardSaid : Prop := Claim7.holds Tryz.pinned (.plain (OpenSpec.upto fnPathNoIdentifierSpec)) fnPathNoIdentifierUptoCard

/-- THE SECOND FORM's CARD OF 'laws.FnSection'. -/
def fnSectionUptoCard : Claim7 := { stood := { row := fnSectionUptoRow, standIns := [], harness := (true, "81e09fea8352ae596f436daeee3d2cd2853e5d487a6c459a3aa30ed7d8cdad96"), looks := false }, kinds := [], alts := [], laidByText := true, laidKinds := [.data, .pinned, .pinned], laidTests := true, laidLooks := .later }
def FnSectionUptoCardSaid : Prop := Claim7.holds Tryz.pinned (.plain (OpenSpec.upto fnSectionSpec)) fnSectionUptoCard

/-- THE SECOND FORM's CARD OF 'laws.FnUnknown'. -/
def fnUnknownUptoCard : Claim7 := { stood := { row := fnUnknownUptoRow, standIns := [], harness := (true, "81e09fea8352ae596f436daeee3d2cd2853e5d487a6c459a3aa30ed7d8cdad96"), looks := false }, kinds := [], alts := [], laidByText := true, laidKinds := [.data, .pinned, .pinned], laidTests := true, laidLooks := .later }
def FnUnknownUptoCardSaid : Prop := Claim7.holds Tryz.pinned (.plain (OpenSpec.upto fnUnknownSpec)) fnUnknownUptoCard
end Rows
end Go.Proofs.YtbpoljgchbfhpaaGreatDoor
