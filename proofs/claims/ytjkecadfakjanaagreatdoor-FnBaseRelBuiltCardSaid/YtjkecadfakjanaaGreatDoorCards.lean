/-
  DERIVED. GIVEN WITH THE SEED: THE CARDS: each row of YtjkecadfakjanaaGreatDoorRows.lean that lists a variable, with what it lists TIED to the program's text (the seventh form; the later family's looks); each row that meets fmt, with fmt's text TOLD by the authors' own Lean function (tested against real Go, not proved from fmt's source: count such statements apart). THE CARD IS WHAT COUNTS. Prove the row's statement (the work); the ties are given (YtjkecadfakjanaaGreatDoorTie.lean); close each card by the builder's one call (the guide's Derived/Test/ToyasCard.lean, 'card_holds'). Laid BY PROGRAM, IN A SANDBOX (cutbox-door.mjs). By AI agents, Wed Nov 11 2026. No macro, syntax, notation, axiom, sorry.
-/
import Derived.Test.YtjkecadfakjanaaGreatDoorRows
import GoSem.ClaimSeven
namespace Go.Proofs.YtjkecadfakjanaaGreatDoor
namespace Rows

/-- THE TIED CARD OF 'laws.FnTrimmedWords'. -/
def fnTrimmedWordsCard : Claim7 := { stood := { row := fnTrimmedWordsRow, standIns := [], harness := (true, "df1104318130c0c02b399c2372bfbfd936a99278d7ff395d03e4835410018893"), looks := false }, kinds := [], alts := [], laidByText := true, laidKinds := [.data, .pinned, .pinned], laidTests := true, laidLooks := .later }
def FnTrimmedWordsCardSaid : Prop := Claim7.holds Tryz.pinned (.plain (OpenSpec.ofChange fnTrimmedWordsSpec)) fnTrimmedWordsCard

/-- THE TIED CARD OF 'laws.FnBuiltResource'. -/
def fnBuiltResourceCard : Claim7 := { stood := { row := fnBuiltResourceRow, standIns := [], harness := (true, "df1104318130c0c02b399c2372bfbfd936a99278d7ff395d03e4835410018893"), looks := false }, kinds := [], alts := [], laidByText := true, laidKinds := [.data, .pinned, .pinned], laidTests := true, laidLooks := .later }
def FnBuiltResourceCardSaid : Prop := Claim7.holds Tryz.pinned (.plain (OpenSpec.ofChange fnBuiltResourceSpec)) fnBuiltResourceCard

/-- THE TIED CARD OF 'laws.FnBaseReTypedBuilt'. -/
def fnBaseReTypedBuiltCard : Claim7 := { stood := { row := fnBaseReTypedBuiltRow, standIns := [], harness := (true, "df1104318130c0c02b399c2372bfbfd936a99278d7ff395d03e4835410018893"), looks := false }, kinds := [], alts := [], laidByText := true, laidKinds := [.data, .pinned, .pinned], laidTests := true, laidLooks := .later }
def FnBaseReTypedBuiltCardSaid : Prop := Claim7.holds Tryz.pinned (.plain (OpenSpec.ofChange fnBaseReTypedBuiltSpec)) fnBaseReTypedBuiltCard

/-- THE TIED CARD OF 'laws.FnBaseRelBuilt'. -/
def fnBaseRelBuiltCard : Claim7 := { stood := { row := fnBaseRelBuiltRow, standIns := [], harness := (true, "df1104318130c0c02b399c2372bfbfd936a99278d7ff395d03e4835410018893"), looks := false }, kinds := [], alts := [], laidByText := true, laidKinds := [.data, .pinned, .pinned], laidTests := true, laidLooks := .later }
def FnBaseRelBuiltCardSaid : Prop := Claim7.holds Tryz.pinned (.plain (OpenSpec.ofChange fnBaseRelBuiltSpec)) fnBaseRelBuiltCard

/-- THE TIED CARD OF 'laws.FnBuiltCustom'. -/
def fnBuiltCustomCard : Claim7 := { stood := { row := fnBuiltCustomRow, standIns := [], harness := (true, "df1104318130c0c02b399c2372bfbfd936a99278d7ff395d03e4835410018893"), looks := false }, kinds := [], alts := [], laidByText := true, laidKinds := [.data, .pinned, .pinned], laidTests := true, laidLooks := .later }
def FnBuiltCustomCardSaid : Prop := Claim7.holds Tryz.pinned (.plain (OpenSpec.ofChange fnBuiltCustomSpec)) fnBuiltCustomCard

/-- THE TIED CARD OF 'laws.FnBuiltData'. -/
def fnBuiltDataCard : Claim7 := { stood := { row := fnBuiltDataRow, standIns := [], harness := (true, "df1104318130c0c02b399c2372bfbfd936a99278d7ff395d03e4835410018893"), looks := false }, kinds := [], alts := [], laidByText := true, laidKinds := [.data, .pinned, .pinned], laidTests := true, laidLooks := .later }
def FnBuiltDataCardSaid : Prop := Claim7.holds Tryz.pinned (.plain (OpenSpec.ofChange fnBuiltDataSpec)) fnBuiltDataCard

/-- THE TIED CARD OF 'laws.FnBuiltLayout'. -/
def fnBuiltLayoutCard : Claim7 := { stood := { row := fnBuiltLayoutRow, standIns := [], harness := (true, "df1104318130c0c02b399c2372bfbfd936a99278d7ff395d03e4835410018893"), looks := false }, kinds := [], alts := [], laidByText := true, laidKinds := [.data, .pinned, .pinned], laidTests := true, laidLooks := .later }
def FnBuiltLayoutCardSaid : Prop := Claim7.holds Tryz.pinned (.plain (OpenSpec.ofChange fnBuiltLayoutSpec)) fnBuiltLayoutCard

/-- THE TIED CARD OF 'laws.FnBuiltPage'. -/
def fnBuiltPageCard : Claim7 := { stood := { row := fnBuiltPageRow, standIns := [], harness := (true, "df1104318130c0c02b399c2372bfbfd936a99278d7ff395d03e4835410018893"), looks := false }, kinds := [], alts := [], laidByText := true, laidKinds := [.data, .pinned, .pinned], laidTests := true, laidLooks := .later }
def FnBuiltPageCardSaid : Prop := Claim7.holds Tryz.pinned (.plain (OpenSpec.ofChange fnBuiltPageSpec)) fnBuiltPageCard

/-- THE TIED CARD OF 'laws.FnBuiltSorts'. -/
def fnBuiltSortsCard : Claim7 := { stood := { row := fnBuiltSortsRow, standIns := [], harness := (true, "df1104318130c0c02b399c2372bfbfd936a99278d7ff395d03e4835410018893"), looks := false }, kinds := [], alts := [], laidByText := true, laidKinds := [.data, .pinned, .pinned], laidTests := true, laidLooks := .later }
def FnBuiltSortsCardSaid : Prop := Claim7.holds Tryz.pinned (.plain (OpenSpec.ofChange fnBuiltSortsSpec)) fnBuiltSortsCard

/-- THE SECOND FORM's CARD OF 'laws.FnTrimmedWords'. -/
def fnTrimmedWordsUptoCard : Claim7 := { stood := { row := fnTrimmedWordsUptoRow, standIns := [], harness := (true, "df1104318130c0c02b399c2372bfbfd936a99278d7ff395d03e4835410018893"), looks := false }, kinds := [], alts := [], laidByText := true, laidKinds := [.data, .pinned, .pinned], laidTests := true, laidLooks := .later }
def FnTrimmedWordsUptoCardSaid : Prop := Claim7.holds Tryz.pinned (.plain (OpenSpec.upto fnTrimmedWordsSpec)) fnTrimmedWordsUptoCard

/-- THE SECOND FORM's CARD OF 'laws.FnBuiltResource'. -/
def fnBuiltResourceUptoCard : Claim7 := { stood := { row := fnBuiltResourceUptoRow, standIns := [], harness := (true, "df1104318130c0c02b399c2372bfbfd936a99278d7ff395d03e4835410018893"), looks := false }, kinds := [], alts := [], laidByText := true, laidKinds := [.data, .pinned, .pinned], laidTests := true, laidLooks := .later }
def FnBuiltResourceUptoCardSaid : Prop := Claim7.holds Tryz.pinned (.plain (OpenSpec.upto fnBuiltResourceSpec)) fnBuiltResourceUptoCard

/-- THE SECOND FORM's CARD OF 'laws.FnBaseReTypedBuilt'. -/
def fnBaseReTypedBuiltUptoCard : Claim7 := { stood := { row := fnBaseReTypedBuiltUptoRow, standIns := [], harness := (true, "df1104318130c0c02b399c2372bfbfd936a99278d7ff395d03e4835410018893"), looks := false }, kinds := [], alts := [], laidByText := true, laidKinds := [.data, .pinned, .pinned], laidTests := true, laidLooks := .later }
def FnBaseReTypedBuiltUptoCardSaid : Prop := Claim7.holds Tryz.pinned (.plain (OpenSpec.upto fnBaseReTypedBuiltSpec)) fnBaseReTypedBuiltUptoCard

/-- THE SECOND FORM's CARD OF 'laws.FnBaseRelBuilt'. -/
def fnBaseRelBuiltUptoCard : Claim7 := { stood := { row := fnBaseRelBuiltUptoRow, standIns := [], harness := (true, "df1104318130c0c02b399c2372bfbfd936a99278d7ff395d03e4835410018893"), looks := false }, kinds := [], alts := [], laidByText := true, laidKinds := [.data, .pinned, .pinned], laidTests := true, laidLooks := .later }
def FnBaseRelBuiltUptoCardSaid : Prop := Claim7.holds Tryz.pinned (.plain (OpenSpec.upto fnBaseRelBuiltSpec)) fnBaseRelBuiltUptoCard

/-- THE SECOND FORM's CARD OF 'laws.FnBuiltCustom'. -/
def fnBuiltCustomUptoCard : Claim7 := { stood := { row := fnBuiltCustomUptoRow, standIns := [], harness := (true, "df1104318130c0c02b399c2372bfbfd936a99278d7ff395d03e4835410018893"), looks := false }, kinds := [], alts := [], laidByText := true, laidKinds := [.data, .pinned, .pinned], laidTests := true, laidLooks := .later }
def FnBuiltCustomUptoCardSaid : Prop := Claim7.holds Tryz.pinned (.plain (OpenSpec.upto fnBuiltCustomSpec)) fnBuiltCustomUptoCard

/-- THE SECOND FORM's CARD OF 'laws.FnBuiltData'. -/
def fnBuiltDataUptoCard : Claim7 := { stood := { row := fnBuiltDataUptoRow, standIns := [], harness := (true, "df1104318130c0c02b399c2372bfbfd936a99278d7ff395d03e4835410018893"), looks := false }, kinds := [], alts := [], laidByText := true, laidKinds := [.data, .pinned, .pinned], laidTests := true, laidLooks := .later }
def FnBuiltDataUptoCardSaid : Prop := Claim7.holds Tryz.pinned (.plain (OpenSpec.upto fnBuiltDataSpec)) fnBuiltDataUptoCard

/-- THE SECOND FORM's CARD OF 'laws.FnBuiltLayout'. -/
def fnBuiltLayoutUptoCard : Claim7 := { stood := { row := fnBuiltLayoutUptoRow, standIns := [], harness := (true, "df1104318130c0c02b399c2372bfbfd936a99278d7ff395d03e4835410018893"), looks := false }, kinds := [], alts := [], laidByText := true, laidKinds := [.data, .pinned, .pinned], laidTests := true, laidLooks := .later }
def FnBuiltLayoutUptoCardSaid : Prop := Claim7.holds Tryz.pinned (.plain (OpenSpec.upto fnBuiltLayoutSpec)) fnBuiltLayoutUptoCard

/-- THE SECOND FORM's CARD OF 'laws.FnBuiltPage'. -/
def fnBuiltPageUptoCard : Claim7 := { stood := { row := fnBuiltPageUptoRow, standIns := [], harness := (true, "df1104318130c0c02b399c2372bfbfd936a99278d7ff395d03e4835410018893"), looks := false }, kinds := [], alts := [], laidByText := true, laidKinds := [.data, .pinned, .pinned], laidTests := true, laidLooks := .later }
def FnBuiltPageUptoCardSaid : Prop := Claim7.holds Tryz.pinned (.plain (OpenSpec.upto fnBuiltPageSpec)) fnBuiltPageUptoCard

/-- THE SECOND FORM's CARD OF 'laws.FnBuiltSorts'. -/
def fnBuiltSortsUptoCard : Claim7 := { stood := { row := fnBuiltSortsUptoRow, standIns := [], harness := (true, "df1104318130c0c02b399c2372bfbfd936a99278d7ff395d03e4835410018893"), looks := false }, kinds := [], alts := [], laidByText := true, laidKinds := [.data, .pinned, .pinned], laidTests := true, laidLooks := .later }
def FnBuiltSortsUptoCardSaid : Prop := Claim7.holds Tryz.pinned (.plain (OpenSpec.upto fnBuiltSortsSpec)) fnBuiltSortsUptoCard
end Rows
end Go.Proofs.YtjkecadfakjanaaGreatDoor
