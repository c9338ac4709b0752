/-
  DERIVED. GIVEN WITH THE SEED: THE CARDS: each row of YtfekhbnefogkdaaGreatDoorRows.lean that lists a variable, with what it lists TIED to the program's text (the seventh form; the later family's looks); each row that meets fmt, with fmt's text TOLD by the authors' own Lean function (tested against real Go, not proved from fmt's source: count such statements apart). THE CARD IS WHAT COUNTS. Prove the row's statement (the work); the ties are given (YtfekhbnefogkdaaGreatDoorTie.lean); close each card by the builder's one call (the guide's Derived/Test/ToyasCard.lean, 'card_holds'). Laid BY PROGRAM, IN A SANDBOX (cutbox-door.mjs). By AI agents, Wed Nov 11 2026. No macro, syntax, notation, axiom, sorry.
-/
import Derived.Test.YtfekhbnefogkdaaGreatDoorRows
import GoSem.ClaimSeven
namespace Go.Proofs.YtfekhbnefogkdaaGreatDoor
namespace Rows

/-- THE TIED CARD OF 'laws.FnSiteTurned'. -/
def fnSiteTurnedCard : Claim7 := { stood := { row := fnSiteTurnedRow, standIns := [], harness := (true, "932eb38b5f210e67295f765c5fee4181fc391dc6b08d155eb6aa7b4ad45a4028"), looks := false }, kinds := [], alts := [], laidByText := true, laidKinds := [.data, .pinned, .pinned], laidTests := true, laidLooks := .later }
def FnSiteTurnedCardSaid : Prop := Claim7.holds Tryz.pinned (.plain (OpenSpec.ofChange fnSiteTurnedSpec)) fnSiteTurnedCard

/-- THE TIED CARD OF 'laws.FnMoreFormats'. -/
def fnMoreFormatsCard : Claim7 := { stood := { row := fnMoreFormatsRow, standIns := [], harness := (true, "932eb38b5f210e67295f765c5fee4181fc391dc6b08d155eb6aa7b4ad45a4028"), looks := false }, kinds := [], alts := [], laidByText := true, laidKinds := [.data, .pinned, .pinned], laidTests := true, laidLooks := .later }
def FnMoreFormatsCardSaid : Prop := Claim7.holds Tryz.pinned (.plain (OpenSpec.ofChange fnMoreFormatsSpec)) fnMoreFormatsCard

/-- THE TIED CARD OF 'laws.FnNoContent'. -/
def fnNoContentCard : Claim7 := { stood := { row := fnNoContentRow, standIns := [], harness := (true, "932eb38b5f210e67295f765c5fee4181fc391dc6b08d155eb6aa7b4ad45a4028"), looks := false }, kinds := [], alts := [], laidByText := true, laidKinds := [.data, .pinned, .pinned], laidTests := true, laidLooks := .later }
def FnNoContentCardSaid : Prop := Claim7.holds Tryz.pinned (.plain (OpenSpec.ofChange fnNoContentSpec)) fnNoContentCard

/-- THE TIED CARD OF 'laws.FnUnnormalizedSmall'. -/
def fnUnnormalizedSmallCard : Claim7 := { stood := { row := fnUnnormalizedSmallRow, standIns := [], harness := (true, "932eb38b5f210e67295f765c5fee4181fc391dc6b08d155eb6aa7b4ad45a4028"), looks := false }, kinds := [], alts := [], laidByText := true, laidKinds := [.data, .pinned, .pinned], laidTests := true, laidLooks := .later }
def FnUnnormalizedSmallCardSaid : Prop := Claim7.holds Tryz.pinned (.plain (OpenSpec.ofChange fnUnnormalizedSmallSpec)) fnUnnormalizedSmallCard

/-- THE TIED CARD OF 'laws.FnPathRelBack'. -/
def fnPathRelBackCard : Claim7 := { stood := { row := fnPathRelBackRow, standIns := [], harness := (true, "932eb38b5f210e67295f765c5fee4181fc391dc6b08d155eb6aa7b4ad45a4028"), looks := false }, kinds := [], alts := [], laidByText := true, laidKinds := [.data, .pinned, .pinned], laidTests := true, laidLooks := .later }
def FnPathRelBackCardSaid : Prop := Claim7.holds Tryz.pinned (.plain (OpenSpec.ofChange fnPathRelBackSpec)) fnPathRelBackCard

/-- THE TIED CARD OF 'laws.FnBaseAndName'. -/
def fnBaseAndNameCard : Claim7 := { stood := { row := fnBaseAndNameRow, standIns := [], harness := (true, "932eb38b5f210e67295f765c5fee4181fc391dc6b08d155eb6aa7b4ad45a4028"), looks := false }, kinds := [], alts := [], laidByText := true, laidKinds := [.data, .pinned, .pinned], laidTests := true, laidLooks := .later }
def FnBaseAndNameCardSaid : Prop := Claim7.holds Tryz.pinned (.plain (OpenSpec.ofChange fnBaseAndNameSpec)) fnBaseAndNameCard

/-- THE SECOND FORM's CARD OF 'laws.FnSiteTurned'. -/
def fnSiteTurnedUptoCard : Claim7 := { stood := { row := fnSiteTurnedUptoRow, standIns := [], harness := (true, "932eb38b5f210e67295f765c5fee4181fc391dc6b08d155eb6aa7b4ad45a4028"), looks := false }, kinds := [], alts := [], laidByText := true, laidKinds := [.data, .pinned, .pinned], laidTests := true, laidLooks := .later }
def FnSiteTurnedUptoCardSaid : Prop := Claim7.holds Tryz.pinned (.plain (OpenSpec.upto fnSiteTurnedSpec)) fnSiteTurnedUptoCard

/-- THE SECOND FORM's CARD OF 'laws.FnMoreFormats'. -/
def fnMoreFormatsUptoCard : Claim7 := { stood := { row := fnMoreFormatsUptoRow, standIns := [], harness := (true, "932eb38b5f210e67295f765c5fee4181fc391dc6b08d155eb6aa7b4ad45a4028"), looks := false }, kinds := [], alts := [], laidByText := true, laidKinds := [.data, .pinned, .pinned], laidTests := true, laidLooks := .later }
def FnMoreFormatsUptoCardSaid : Prop := Claim7.holds Tryz.pinned (.plain (OpenSpec.upto fnMoreFormatsSpec)) fnMoreFormatsUptoCard

/-- THE SECOND FORM's CARD OF 'laws.FnNoContent'. -/
def fnNoContentUptoCard : Claim7 := { stood := { row := fnNoContentUptoRow, standIns := [], harness := (true, "932eb38b5f210e67295f765c5fee4181fc391dc6b08d155eb6aa7b4ad45a4028"), looks := false }, kinds := [], alts := [], laidByText := true, laidKinds := [.data, .pinned, .pinned], laidTests := true, laidLooks := .later }
def FnNoContentUptoCardSaid : Prop := Claim7.holds Tryz.pinned (.plain (OpenSpec.upto fnNoContentSpec)) fnNoContentUptoCard

/-- THE SECOND FORM's CARD OF 'laws.FnUnnormalizedSmall'. -/
def fnUnnormalizedSmallUptoCard : Claim7 := { stood := { row := fnUnnormalizedSmallUptoRow, standIns := [], harness := (true, "932eb38b5f210e67295f765c5fee4181fc391dc6b08d155eb6aa7b4ad45a4028"), looks := false }, kinds := [], alts := [], laidByText := true, laidKinds := [.data, .pinned, .pinned], laidTests := true, laidLooks := .later }
def FnUnnormalizedSmallUptoCardSaid : Prop := Claim7.holds Tryz.pinned (.plain (OpenSpec.upto fnUnnormalizedSmallSpec)) fnUnnormalizedSmallUptoCard

/-- THE SECOND FORM's CARD OF 'laws.FnPathRelBack'. -/
def fnPathRelBackUptoCard : Claim7 := { stood := { row := fnPathRelBackUptoRow, standIns := [], harness := (true, "932eb38b5f210e67295f765c5fee4181fc391dc6b08d155eb6aa7b4ad45a4028"), looks := false }, kinds := [], alts := [], laidByText := true, laidKinds := [.data, .pinned, .pinned], laidTests := true, laidLooks := .later }
def FnPathRelBackUptoCardSaid : Prop := Claim7.holds Tryz.pinned (.plain (OpenSpec.upto fnPathRelBackSpec)) fnPathRelBackUptoCard

/-- THE SECOND FORM's CARD OF 'laws.FnBaseAndName'. -/
def fnBaseAndNameUptoCard : Claim7 := { stood := { row := fnBaseAndNameUptoRow, standIns := [], harness := (true, "932eb38b5f210e67295f765c5fee4181fc391dc6b08d155eb6aa7b4ad45a4028"), looks := false }, kinds := [], alts := [], laidByText := true, laidKinds := [.data, .pinned, .pinned], laidTests := true, laidLooks := .later }
def FnBaseAndNameUptoCardSaid : Prop := Claim7.holds Tryz.pinned (.plain (OpenSpec.upto fnBaseAndNameSpec)) fnBaseAndNameUptoCard
end Rows
end Go.Proofs.YtfekhbnefogkdaaGreatDoor
