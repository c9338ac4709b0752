/-
  DERIVED. GIVEN WITH THE SEED: THE CARDS: each row of YtcmiiboioemelaaGreatDoorRows.lean that lists a variable, with what it lists TIED to the program's text (the seventh form; the later family's looks); each row that meets fmt, with fmt's text TOLD by the authors' own Lean function (tested against real Go, not proved from fmt's source: count such statements apart). THE CARD IS WHAT COUNTS. Prove the row's statement (the work); the ties are given (YtcmiiboioemelaaGreatDoorTie.lean); close each card by the builder's one call (the guide's Derived/Test/ToyasCard.lean, 'card_holds'). Laid BY PROGRAM, IN A SANDBOX (cutbox-door.mjs). By AI agents, Wed Nov 11 2026. No macro, syntax, notation, axiom, sorry.
-/
import Derived.Test.YtcmiiboioemelaaGreatDoorRows
import GoSem.ClaimSeven
namespace Go.Proofs.YtcmiiboioemelaaGreatDoor
namespace Rows

/-- THE TIED CARD OF 'laws.FnBase'. -/
def fnBaseCard : Claim7 := { stood := { row := fnBaseRow, standIns := [], harness := (true, "5a8820d455cac0305b803ffa277bba9acdc9fdbac599d7d0871d5b7b6b4869b5"), looks := false }, kinds := [], alts := [], laidByText := true, laidKinds := [.data, .pinned, .pinned], laidTests := true, laidLooks := .later }
def FnBaseCardSaid : Prop := Claim7.holds Tryz.pinned (.plain (OpenSpec.ofChange fnBaseSpec)) fnBaseCard

/-- THE TIED CARD OF 'laws.FnContainer'. -/
def fnContainerCard : Claim7 := { stood := { row := fnContainerRow, standIns := [], harness := (true, "5a8820d455cac0305b803ffa277bba9acdc9fdbac599d7d0871d5b7b6b4869b5"), looks := false }, kinds := [], alts := [], laidByText := true, laidKinds := [.data, .pinned, .pinned], laidTests := true, laidLooks := .later }
def FnContainerCardSaid : Prop := Claim7.holds Tryz.pinned (.plain (OpenSpec.ofChange fnContainerSpec)) fnContainerCard

/-- THE TIED CARD OF 'laws.FnExt'. -/
def fnExtCard : Claim7 := { stood := { row := fnExtRow, standIns := [], harness := (true, "5a8820d455cac0305b803ffa277bba9acdc9fdbac599d7d0871d5b7b6b4869b5"), looks := false }, kinds := [], alts := [], laidByText := true, laidKinds := [.data, .pinned, .pinned], laidTests := true, laidLooks := .later }
def FnExtCardSaid : Prop := Claim7.holds Tryz.pinned (.plain (OpenSpec.ofChange fnExtSpec)) fnExtCard

/-- THE TIED CARD OF 'laws.FnBaseAndName'. -/
def fnBaseAndNameCard : Claim7 := { stood := { row := fnBaseAndNameRow, standIns := [], harness := (true, "5a8820d455cac0305b803ffa277bba9acdc9fdbac599d7d0871d5b7b6b4869b5"), looks := false }, kinds := [], alts := [], laidByText := true, laidKinds := [.data, .pinned, .pinned], laidTests := true, laidLooks := .later }
def FnBaseAndNameCardSaid : Prop := Claim7.holds Tryz.pinned (.plain (OpenSpec.ofChange fnBaseAndNameSpec)) fnBaseAndNameCard

/-- THE TIED CARD OF 'laws.FnNormal'. -/
def fnNormalCard : Claim7 := { stood := { row := fnNormalRow, standIns := [], harness := (true, "5a8820d455cac0305b803ffa277bba9acdc9fdbac599d7d0871d5b7b6b4869b5"), looks := false }, kinds := [], alts := [], laidByText := true, laidKinds := [.data, .pinned, .pinned], laidTests := true, laidLooks := .later }
def FnNormalCardSaid : Prop := Claim7.holds Tryz.pinned (.plain (OpenSpec.ofChange fnNormalSpec)) fnNormalCard

/-- THE TIED CARD OF 'laws.FnUnnormalizedNames'. -/
def fnUnnormalizedNamesCard : Claim7 := { stood := { row := fnUnnormalizedNamesRow, standIns := [], harness := (true, "5a8820d455cac0305b803ffa277bba9acdc9fdbac599d7d0871d5b7b6b4869b5"), looks := false }, kinds := [], alts := [], laidByText := true, laidKinds := [.data, .pinned, .pinned], laidTests := true, laidLooks := .later }
def FnUnnormalizedNamesCardSaid : Prop := Claim7.holds Tryz.pinned (.plain (OpenSpec.ofChange fnUnnormalizedNamesSpec)) fnUnnormalizedNamesCard

/-- THE TIED CARD OF 'laws.FnUnnormalizedSorts'. -/
def fnUnnormalizedSortsCard : Claim7 := { stood := { row := fnUnnormalizedSortsRow, standIns := [], harness := (true, "5a8820d455cac0305b803ffa277bba9acdc9fdbac599d7d0871d5b7b6b4869b5"), looks := false }, kinds := [], alts := [], laidByText := true, laidKinds := [.data, .pinned, .pinned], laidTests := true, laidLooks := .later }
def FnUnnormalizedSortsCardSaid : Prop := Claim7.holds Tryz.pinned (.plain (OpenSpec.ofChange fnUnnormalizedSortsSpec)) fnUnnormalizedSortsCard

/-- THE TIED CARD OF 'laws.FnForTypeWords'. -/
def fnForTypeWordsCard : Claim7 := { stood := { row := fnForTypeWordsRow, standIns := [], harness := (true, "5a8820d455cac0305b803ffa277bba9acdc9fdbac599d7d0871d5b7b6b4869b5"), looks := false }, kinds := [], alts := [], laidByText := true, laidKinds := [.data, .pinned, .pinned], laidTests := true, laidLooks := .later }
def FnForTypeWordsCardSaid : Prop := Claim7.holds Tryz.pinned (.plain (OpenSpec.ofChange fnForTypeWordsSpec)) fnForTypeWordsCard

/-- THE TIED CARD OF 'laws.FnTrimmedWords'. -/
def fnTrimmedWordsCard : Claim7 := { stood := { row := fnTrimmedWordsRow, standIns := [], harness := (true, "5a8820d455cac0305b803ffa277bba9acdc9fdbac599d7d0871d5b7b6b4869b5"), looks := false }, kinds := [], alts := [], laidByText := true, laidKinds := [.data, .pinned, .pinned], laidTests := true, laidLooks := .later }
def FnTrimmedWordsCardSaid : Prop := Claim7.holds Tryz.pinned (.plain (OpenSpec.ofChange fnTrimmedWordsSpec)) fnTrimmedWordsCard

/-- THE TIED CARD OF 'laws.FnNoLeading'. -/
def fnNoLeadingCard : Claim7 := { stood := { row := fnNoLeadingRow, standIns := [], harness := (true, "5a8820d455cac0305b803ffa277bba9acdc9fdbac599d7d0871d5b7b6b4869b5"), looks := false }, kinds := [], alts := [], laidByText := true, laidKinds := [.data, .pinned, .pinned], laidTests := true, laidLooks := .later }
def FnNoLeadingCardSaid : Prop := Claim7.holds Tryz.pinned (.plain (OpenSpec.ofChange fnNoLeadingSpec)) fnNoLeadingCard

/-- THE TIED CARD OF 'laws.FnResourceNames'. -/
def fnResourceNamesCard : Claim7 := { stood := { row := fnResourceNamesRow, standIns := [], harness := (true, "5a8820d455cac0305b803ffa277bba9acdc9fdbac599d7d0871d5b7b6b4869b5"), looks := false }, kinds := [], alts := [], laidByText := true, laidKinds := [.data, .pinned, .pinned], laidTests := true, laidLooks := .later }
def FnResourceNamesCardSaid : Prop := Claim7.holds Tryz.pinned (.plain (OpenSpec.ofChange fnResourceNamesSpec)) fnResourceNamesCard

/-- THE TIED CARD OF 'laws.FnResourceSorts'. -/
def fnResourceSortsCard : Claim7 := { stood := { row := fnResourceSortsRow, standIns := [], harness := (true, "5a8820d455cac0305b803ffa277bba9acdc9fdbac599d7d0871d5b7b6b4869b5"), looks := false }, kinds := [], alts := [], laidByText := true, laidKinds := [.data, .pinned, .pinned], laidTests := true, laidLooks := .later }
def FnResourceSortsCardSaid : Prop := Claim7.holds Tryz.pinned (.plain (OpenSpec.ofChange fnResourceSortsSpec)) fnResourceSortsCard

/-- THE SECOND FORM's CARD OF 'laws.FnBase'. -/
def fnBaseUptoCard : Claim7 := { stood := { row := fnBaseUptoRow, standIns := [], harness := (true, "5a8820d455cac0305b803ffa277bba9acdc9fdbac599d7d0871d5b7b6b4869b5"), looks := false }, kinds := [], alts := [], laidByText := true, laidKinds := [.data, .pinned, .pinned], laidTests := true, laidLooks := .later }
def FnBaseUptoCardSaid : Prop := Claim7.holds Tryz.pinned (.plain (OpenSpec.upto fnBaseSpec)) fnBaseUptoCard

/-- THE SECOND FORM's CARD OF 'laws.FnContainer'. -/
def fnContainerUptoCard : Claim7 := { stood := { row := fnContainerUptoRow, standIns := [], harness := (true, "5a8820d455cac0305b803ffa277bba9acdc9fdbac599d7d0871d5b7b6b4869b5"), looks := false }, kinds := [], alts := [], laidByText := true, laidKinds := [.data, .pinned, .pinned], laidTests := true, laidLooks := .later }
def FnContainerUptoCardSaid : Prop := Claim7.holds Tryz.pinned (.plain (OpenSpec.upto fnContainerSpec)) fnContainerUptoCard

/-- THE SECOND FORM's CARD OF 'laws.FnExt'. -/
def fnExtUptoCard : Claim7 := { stood := { row := fnExtUptoRow, standIns := [], harness := (true, "5a8820d455cac0305b803ffa277bba9acdc9fdbac599d7d0871d5b7b6b4869b5"), looks := false }, kinds := [], alts := [], laidByText := true, laidKinds := [.data, .pinned, .pinned], laidTests := true, laidLooks := .later }
def FnExtUptoCardSaid : Prop := Claim7.holds Tryz.pinned (.plain (OpenSpec.upto fnExtSpec)) fnExtUptoCard

/-- THE SECOND FORM's CARD OF 'laws.FnBaseAndName'. -/
def fnBaseAndNameUptoCard : Claim7 := { stood := { row := fnBaseAndNameUptoRow, standIns := [], harness := (true, "5a8820d455cac0305b803ffa277bba9acdc9fdbac599d7d0871d5b7b6b4869b5"), looks := false }, kinds := [], alts := [], laidByText := true, laidKinds := [.data, .pinned, .pinned], laidTests := true, laidLooks := .later }
def FnBaseAndNameUptoCardSaid : Prop := Claim7.holds Tryz.pinned (.plain (OpenSpec.upto fnBaseAndNameSpec)) fnBaseAndNameUptoCard

/-- THE SECOND FORM's CARD OF 'laws.FnNormal'. -/
def fnNormalUptoCard : Claim7 := { stood := { row := fnNormalUptoRow, standIns := [], harness := (true, "5a8820d455cac0305b803ffa277bba9acdc9fdbac599d7d0871d5b7b6b4869b5"), looks := false }, kinds := [], alts := [], laidByText := true, laidKinds := [.data, .pinned, .pinned], laidTests := true, laidLooks := .later }
def FnNormalUptoCardSaid : Prop := Claim7.holds Tryz.pinned (.plain (OpenSpec.upto fnNormalSpec)) fnNormalUptoCard

/-- THE SECOND FORM's CARD OF 'laws.FnUnnormalizedNames'. -/
def fnUnnormalizedNamesUptoCard : Claim7 := { stood := { row := fnUnnormalizedNamesUptoRow, standIns := [], harness := (true, "5a8820d455cac0305b803ffa277bba9acdc9fdbac599d7d0871d5b7b6b4869b5"), looks := false }, kinds := [], alts := [], laidByText := true, laidKinds := [.data, .pinned, .pinned], laidTests := true, laidLooks := .later }
def FnUnnormalizedNamesUptoCardSaid : Prop := Claim7.holds Tryz.pinned (.plain (OpenSpec.upto fnUnnormalizedNamesSpec)) fnUnnormalizedNamesUptoCard

/-- THE SECOND FORM's CARD OF 'laws.FnUnnormalizedSorts'. -/
def fnUnnormalizedSortsUptoCard : Claim7 := { stood := { row := fnUnnormalizedSortsUptoRow, standIns := [], harness := (true, "5a8820d455cac0305b803ffa277bba9acdc9fdbac599d7d0871d5b7b6b4869b5"), looks := false }, kinds := [], alts := [], laidByText := true, laidKinds := [.data, .pinned, .pinned], laidTests := true, laidLooks := .later }
def FnUnnormalizedSortsUptoCardSaid : Prop := Claim7.holds Tryz.pinned (.plain (OpenSpec.upto fnUnnormalizedSortsSpec)) fnUnnormalizedSortsUptoCard

/-- THE SECOND FORM's CARD OF 'laws.FnForTypeWords'. -/
def fnForTypeWordsUptoCard : Claim7 := { stood := { row := fnForTypeWordsUptoRow, standIns := [], harness := (true, "5a8820d455cac0305b803ffa277bba9acdc9fdbac599d7d0871d5b7b6b4869b5"), looks := false }, kinds := [], alts := [], laidByText := true, laidKinds := [.data, .pinned, .pinned], laidTests := true, laidLooks := .later }
def FnForTypeWordsUptoCardSaid : Prop := Claim7.holds Tryz.pinned (.plain (OpenSpec.upto fnForTypeWordsSpec)) fnForTypeWordsUptoCard

/-- THE SECOND FORM's CARD OF 'laws.FnTrimmedWords'. -/
def fnTrimmedWordsUptoCard : Claim7 := { stood := { row := fnTrimmedWordsUptoRow, standIns := [], harness := (true, "5a8820d455cac0305b803ffa277bba9acdc9fdbac599d7d0871d5b7b6b4869b5"), looks := false }, kinds := [], alts := [], laidByText := true, laidKinds := [.data, .pinned, .pinned], laidTests := true, laidLooks := .later }
def FnTrimmedWordsUptoCardSaid : Prop := Claim7.holds Tryz.pinned (.plain (OpenSpec.upto fnTrimmedWordsSpec)) fnTrimmedWordsUptoCard

/-- THE SECOND FORM's CARD OF 'laws.FnNoLeading'. -/
def fnNoLeadingUptoCard : Claim7 := { stood := { row := fnNoLeadingUptoRow, standIns := [], harness := (true, "5a8820d455cac0305b803ffa277bba9acdc9fdbac599d7d0871d5b7b6b4869b5"), looks := false }, kinds := [], alts := [], laidByText := true, laidKinds := [.data, .pinned, .pinned], laidTests := true, laidLooks := .later }
def FnNoLeadingUptoCardSaid : Prop := Claim7.holds Tryz.pinned (.plain (OpenSpec.upto fnNoLeadingSpec)) fnNoLeadingUptoCard

/-- THE SECOND FORM's CARD OF 'laws.FnResourceNames'. -/
def fnResourceNamesUptoCard : Claim7 := { stood := { row := fnResourceNamesUptoRow, standIns := [], harness := (true, "5a8820d455cac0305b803ffa277bba9acdc9fdbac599d7d0871d5b7b6b4869b5"), looks := false }, kinds := [], alts := [], laidByText := true, laidKinds := [.data, .pinned, .pinned], laidTests := true, laidLooks := .later }
def FnResourceNamesUptoCardSaid : Prop := Claim7.holds Tryz.pinned (.plain (OpenSpec.upto fnResourceNamesSpec)) fnResourceNamesUptoCard

/-- THE SECOND FORM's CARD OF 'laws.FnResourceSorts'. -/
def fnResourceSortsUptoCard : Claim7 := { stood := { row := fnResourceSortsUptoRow, standIns := [], harness := (true, "5a8820d455cac0305b803ffa277bba9acdc9fdbac599d7d0871d5b7b6b4869b5"), looks := false }, kinds := [], alts := [], laidByText := true, laidKinds := [.data, .pinned, .pinned], laidTests := true, laidLooks := .later }
def FnResourceSortsUptoCardSaid : Prop := Claim7.holds Tryz.pinned (.plain (OpenSpec.upto fnResourceSortsSpec)) fnResourceSortsUptoCard
end Rows
end Go.Proofs.YtcmiiboioemelaaGreatDoor
