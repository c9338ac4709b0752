/-
  DERIVED. GIVEN WITH THE SEED: THE CARDS: each row of YtpgefkmnafpbgaaGreatDoorRows.lean that lists a variable, with what it lists TIED to the program's text (the seventh form; the later family's looks); each row that meets fmt, with fmt's text TOLD by the authors' own Lean function (tested against real Go, not proved from fmt's source: count such statements apart). THE CARD IS WHAT COUNTS. Prove the row's statement (the work); the ties are given (YtpgefkmnafpbgaaGreatDoorTie.lean); close each card by the builder's one call (the guide's Derived/Test/ToyasCard.lean, 'card_holds'). Laid BY PROGRAM, IN A SANDBOX (cutbox-door.mjs). By AI agents, Wed Nov 11 2026. No macro, syntax, notation, axiom, sorry.
-/
import Derived.Test.YtpgefkmnafpbgaaGreatDoorRows
import GoSem.ClaimSeven
namespace Go.Proofs.YtpgefkmnafpbgaaGreatDoor
namespace Rows

/-- THE TIED CARD OF 'laws.FnExt'. -/
def fnExtCard : Claim7 := { stood := { row := fnExtRow, standIns := [], harness := (true, "b9ef5479d8a3bcdf75700b44018e2aff97498c9bfb25083ba7d57fddf2fffe31"), looks := false }, kinds := [], alts := [], laidByText := true, laidKinds := [.data, .pinned, .pinned], laidTests := true, laidLooks := .later }
def FnExtCardSaid : Prop := Claim7.holds Tryz.pinned (.plain (OpenSpec.ofChange fnExtSpec)) fnExtCard

/-- THE TIED CARD OF 'laws.FnFormatListed'. -/
def fnFormatListedCard : Claim7 := { stood := { row := fnFormatListedRow, standIns := [], harness := (true, "b9ef5479d8a3bcdf75700b44018e2aff97498c9bfb25083ba7d57fddf2fffe31"), looks := false }, kinds := [], alts := [], laidByText := true, laidKinds := [.data, .pinned, .pinned], laidTests := true, laidLooks := .later }
def FnFormatListedCardSaid : Prop := Claim7.holds Tryz.pinned (.plain (OpenSpec.ofChange fnFormatListedSpec)) fnFormatListedCard

/-- THE TIED CARD OF 'laws.FnKnownBy'. -/
def fnKnownByCard : Claim7 := { stood := { row := fnKnownByRow, standIns := [], harness := (true, "b9ef5479d8a3bcdf75700b44018e2aff97498c9bfb25083ba7d57fddf2fffe31"), looks := false }, kinds := [], alts := [], laidByText := true, laidKinds := [.data, .pinned, .pinned], laidTests := true, laidLooks := .later }
def FnKnownByCardSaid : Prop := Claim7.holds Tryz.pinned (.plain (OpenSpec.ofChange fnKnownBySpec)) fnKnownByCard

/-- THE TIED CARD OF 'laws.FnLangsListed'. -/
def fnLangsListedCard : Claim7 := { stood := { row := fnLangsListedRow, standIns := [], harness := (true, "b9ef5479d8a3bcdf75700b44018e2aff97498c9bfb25083ba7d57fddf2fffe31"), looks := false }, kinds := [], alts := [], laidByText := true, laidKinds := [.data, .pinned, .pinned], laidTests := true, laidLooks := .later }
def FnLangsListedCardSaid : Prop := Claim7.holds Tryz.pinned (.plain (OpenSpec.ofChange fnLangsListedSpec)) fnLangsListedCard

/-- THE TIED CARD OF 'laws.FnLeafIndex'. -/
def fnLeafIndexCard : Claim7 := { stood := { row := fnLeafIndexRow, standIns := [], harness := (true, "b9ef5479d8a3bcdf75700b44018e2aff97498c9bfb25083ba7d57fddf2fffe31"), looks := false }, kinds := [], alts := [], laidByText := true, laidKinds := [.data, .pinned, .pinned], laidTests := true, laidLooks := .later }
def FnLeafIndexCardSaid : Prop := Claim7.holds Tryz.pinned (.plain (OpenSpec.ofChange fnLeafIndexSpec)) fnLeafIndexCard

/-- THE TIED CARD OF 'laws.FnLogicalName'. -/
def fnLogicalNameCard : Claim7 := { stood := { row := fnLogicalNameRow, standIns := [], harness := (true, "b9ef5479d8a3bcdf75700b44018e2aff97498c9bfb25083ba7d57fddf2fffe31"), looks := false }, kinds := [], alts := [], laidByText := true, laidKinds := [.data, .pinned, .pinned], laidTests := true, laidLooks := .later }
def FnLogicalNameCardSaid : Prop := Claim7.holds Tryz.pinned (.plain (OpenSpec.ofChange fnLogicalNameSpec)) fnLogicalNameCard

/-- THE TIED CARD OF 'laws.FnNameBegins'. -/
def fnNameBeginsCard : Claim7 := { stood := { row := fnNameBeginsRow, standIns := [], harness := (true, "b9ef5479d8a3bcdf75700b44018e2aff97498c9bfb25083ba7d57fddf2fffe31"), looks := false }, kinds := [], alts := [], laidByText := true, laidKinds := [.data, .pinned, .pinned], laidTests := true, laidLooks := .later }
def FnNameBeginsCardSaid : Prop := Claim7.holds Tryz.pinned (.plain (OpenSpec.ofChange fnNameBeginsSpec)) fnNameBeginsCard

/-- THE TIED CARD OF 'laws.FnNameOne'. -/
def fnNameOneCard : Claim7 := { stood := { row := fnNameOneRow, standIns := [], harness := (true, "b9ef5479d8a3bcdf75700b44018e2aff97498c9bfb25083ba7d57fddf2fffe31"), looks := false }, kinds := [], alts := [], laidByText := true, laidKinds := [.data, .pinned, .pinned], laidTests := true, laidLooks := .later }
def FnNameOneCardSaid : Prop := Claim7.holds Tryz.pinned (.plain (OpenSpec.ofChange fnNameOneSpec)) fnNameOneCard

/-- THE TIED CARD OF 'laws.FnNoWords'. -/
def fnNoWordsCard : Claim7 := { stood := { row := fnNoWordsRow, standIns := [], harness := (true, "b9ef5479d8a3bcdf75700b44018e2aff97498c9bfb25083ba7d57fddf2fffe31"), looks := false }, kinds := [], alts := [], laidByText := true, laidKinds := [.data, .pinned, .pinned], laidTests := true, laidLooks := .later }
def FnNoWordsCardSaid : Prop := Claim7.holds Tryz.pinned (.plain (OpenSpec.ofChange fnNoWordsSpec)) fnNoWordsCard

/-- THE TIED CARD OF 'laws.FnPathSlash'. -/
def fnPathSlashCard : Claim7 := { stood := { row := fnPathSlashRow, standIns := [], harness := (true, "b9ef5479d8a3bcdf75700b44018e2aff97498c9bfb25083ba7d57fddf2fffe31"), looks := false }, kinds := [], alts := [], laidByText := true, laidKinds := [.data, .pinned, .pinned], laidTests := true, laidLooks := .later }
def FnPathSlashCardSaid : Prop := Claim7.holds Tryz.pinned (.plain (OpenSpec.ofChange fnPathSlashSpec)) fnPathSlashCard

/-- THE TIED CARD OF 'laws.FnPlainLang'. -/
def fnPlainLangCard : Claim7 := { stood := { row := fnPlainLangRow, standIns := [], harness := (true, "b9ef5479d8a3bcdf75700b44018e2aff97498c9bfb25083ba7d57fddf2fffe31"), looks := false }, kinds := [], alts := [], laidByText := true, laidKinds := [.data, .pinned, .pinned], laidTests := true, laidLooks := .later }
def FnPlainLangCardSaid : Prop := Claim7.holds Tryz.pinned (.plain (OpenSpec.ofChange fnPlainLangSpec)) fnPlainLangCard

/-- THE TIED CARD OF 'laws.FnWordsCount'. -/
def fnWordsCountCard : Claim7 := { stood := { row := fnWordsCountRow, standIns := [], harness := (true, "b9ef5479d8a3bcdf75700b44018e2aff97498c9bfb25083ba7d57fddf2fffe31"), looks := false }, kinds := [], alts := [], laidByText := true, laidKinds := [.data, .pinned, .pinned], laidTests := true, laidLooks := .later }
def FnWordsCountCardSaid : Prop := Claim7.holds Tryz.pinned (.plain (OpenSpec.ofChange fnWordsCountSpec)) fnWordsCountCard

/-- THE SECOND FORM's CARD OF 'laws.FnExt'. -/
def fnExtUptoCard : Claim7 := { stood := { row := fnExtUptoRow, standIns := [], harness := (true, "b9ef5479d8a3bcdf75700b44018e2aff97498c9bfb25083ba7d57fddf2fffe31"), looks := false }, kinds := [], alts := [], laidByText := true, laidKinds := [.data, .pinned, .pinned], laidTests := true, laidLooks := .later }
def FnExtUptoCardSaid : Prop := Claim7.holds Tryz.pinned (.plain (OpenSpec.upto fnExtSpec)) fnExtUptoCard

/-- THE SECOND FORM's CARD OF 'laws.FnFormatListed'. -/
def fnFormatListedUptoCard : Claim7 := { stood := { row := fnFormatListedUptoRow, standIns := [], harness := (true, "b9ef5479d8a3bcdf75700b44018e2aff97498c9bfb25083ba7d57fddf2fffe31"), looks := false }, kinds := [], alts := [], laidByText := true, laidKinds := [.data, .pinned, .pinned], laidTests := true, laidLooks := .later }
def FnFormatListedUptoCardSaid : Prop := Claim7.holds Tryz.pinned (.plain (OpenSpec.upto fnFormatListedSpec)) fnFormatListedUptoCard

/-- THE SECOND FORM's CARD OF 'laws.FnKnownBy'. -/
def fnKnownByUptoCard : Claim7 := { stood := { row := fnKnownByUptoRow, standIns := [], harness := (true, "b9ef5479d8a3bcdf75700b44018e2aff97498c9bfb25083ba7d57fddf2fffe31"), looks := false }, kinds := [], alts := [], laidByText := true, laidKinds := [.data, .pinned, .pinned], laidTests := true, laidLooks := .later }
def FnKnownByUptoCardSaid : Prop := Claim7.holds Tryz.pinned (.plain (OpenSpec.upto fnKnownBySpec)) fnKnownByUptoCard

/-- THE SECOND FORM's CARD OF 'laws.FnLangsListed'. -/
def fnLangsListedUptoCard : Claim7 := { stood := { row := fnLangsListedUptoRow, standIns := [], harness := (true, "b9ef5479d8a3bcdf75700b44018e2aff97498c9bfb25083ba7d57fddf2fffe31"), looks := false }, kinds := [], alts := [], laidByText := true, laidKinds := [.data, .pinned, .pinned], laidTests := true, laidLooks := .later }
def FnLangsListedUptoCardSaid : Prop := Claim7.holds Tryz.pinned (.plain (OpenSpec.upto fnLangsListedSpec)) fnLangsListedUptoCard

/-- THE SECOND FORM's CARD OF 'laws.FnLeafIndex'. -/
def fnLeafIndexUptoCard : Claim7 := { stood := { row := fnLeafIndexUptoRow, standIns := [], harness := (true, "b9ef5479d8a3bcdf75700b44018e2aff97498c9bfb25083ba7d57fddf2fffe31"), looks := false }, kinds := [], alts := [], laidByText := true, laidKinds := [.data, .pinned, .pinned], laidTests := true, laidLooks := .later }
def FnLeafIndexUptoCardSaid : Prop := Claim7.holds Tryz.pinned (.plain (OpenSpec.upto fnLeafIndexSpec)) fnLeafIndexUptoCard

/-- THE SECOND FORM's CARD OF 'laws.FnLogicalName'. -/
def fnLogicalNameUptoCard : Claim7 := { stood := { row := fnLogicalNameUptoRow, standIns := [], harness := (true, "b9ef5479d8a3bcdf75700b44018e2aff97498c9bfb25083ba7d57fddf2fffe31"), looks := false }, kinds := [], alts := [], laidByText := true, laidKinds := [.data, .pinned, .pinned], laidTests := true, laidLooks := .later }
def FnLogicalNameUptoCardSaid : Prop := Claim7.holds Tryz.pinned (.plain (OpenSpec.upto fnLogicalNameSpec)) fnLogicalNameUptoCard

/-- THE SECOND FORM's CARD OF 'laws.FnNameBegins'. -/
def fnNameBeginsUptoCard : Claim7 := { stood := { row := fnNameBeginsUptoRow, standIns := [], harness := (true, "b9ef5479d8a3bcdf75700b44018e2aff97498c9bfb25083ba7d57fddf2fffe31"), looks := false }, kinds := [], alts := [], laidByText := true, laidKinds := [.data, .pinned, .pinned], laidTests := true, laidLooks := .later }
def FnNameBeginsUptoCardSaid : Prop := Claim7.holds Tryz.pinned (.plain (OpenSpec.upto fnNameBeginsSpec)) fnNameBeginsUptoCard

/-- THE SECOND FORM's CARD OF 'laws.FnNameOne'. -/
def fnNameOneUptoCard : Claim7 := { stood := { row := fnNameOneUptoRow, standIns := [], harness := (true, "b9ef5479d8a3bcdf75700b44018e2aff97498c9bfb25083ba7d57fddf2fffe31"), looks := false }, kinds := [], alts := [], laidByText := true, laidKinds := [.data, .pinned, .pinned], laidTests := true, laidLooks := .later }
def FnNameOneUptoCardSaid : Prop := Claim7.holds Tryz.pinned (.plain (OpenSpec.upto fnNameOneSpec)) fnNameOneUptoCard

/-- THE SECOND FORM's CARD OF 'laws.FnNoWords'. -/
def fnNoWordsUptoCard : Claim7 := { stood := { row := fnNoWordsUptoRow, standIns := [], harness := (true, "b9ef5479d8a3bcdf75700b44018e2aff97498c9bfb25083ba7d57fddf2fffe31"), looks := false }, kinds := [], alts := [], laidByText := true, laidKinds := [.data, .pinned, .pinned], laidTests := true, laidLooks := .later }
def FnNoWordsUptoCardSaid : Prop := Claim7.holds Tryz.pinned (.plain (OpenSpec.upto fnNoWordsSpec)) fnNoWordsUptoCard

/-- THE SECOND FORM's CARD OF 'laws.FnPathSlash'. -/
def fnPathSlashUptoCard : Claim7 := { stood := { row := fnPathSlashUptoRow, standIns := [], harness := (true, "b9ef5479d8a3bcdf75700b44018e2aff97498c9bfb25083ba7d57fddf2fffe31"), looks := false }, kinds := [], alts := [], laidByText := true, laidKinds := [.data, .pinned, .pinned], laidTests := true, laidLooks := .later }
def FnPathSlashUptoCardSaid : Prop := Claim7.holds Tryz.pinned (.plain (OpenSpec.upto fnPathSlashSpec)) fnPathSlashUptoCard

/-- THE SECOND FORM's CARD OF 'laws.FnPlainLang'. -/
def fnPlainLangUptoCard : Claim7 := { stood := { row := fnPlainLangUptoRow, standIns := [], harness := (true, "b9ef5479d8a3bcdf75700b44018e2aff97498c9bfb25083ba7d57fddf2fffe31"), looks := false }, kinds := [], alts := [], laidByText := true, laidKinds := [.data, .pinned, .pinned], laidTests := true, laidLooks := .later }
def FnPlainLangUptoCardSaid : Prop := Claim7.holds Tryz.pinned (.plain (OpenSpec.upto fnPlainLangSpec)) fnPlainLangUptoCard

/-- THE SECOND FORM's CARD OF 'laws.FnWordsCount'. -/
def fnWordsCountUptoCard : Claim7 := { stood := { row := fnWordsCountUptoRow, standIns := [], harness := (true, "b9ef5479d8a3bcdf75700b44018e2aff97498c9bfb25083ba7d57fddf2fffe31"), looks := false }, kinds := [], alts := [], laidByText := true, laidKinds := [.data, .pinned, .pinned], laidTests := true, laidLooks := .later }
def FnWordsCountUptoCardSaid : Prop := Claim7.holds Tryz.pinned (.plain (OpenSpec.upto fnWordsCountSpec)) fnWordsCountUptoCard
end Rows
end Go.Proofs.YtpgefkmnafpbgaaGreatDoor
