/-
  DERIVED. GIVEN WITH THE SEED: THE CARDS: each row of YtbnmgneaofhdiaaGreatDoorRows.lean that lists a variable, with what it lists TIED to the program's text (the seventh form; the later family's looks); each row that meets fmt, with fmt's text TOLD by the authors' own Lean function (tested against real Go, not proved from fmt's source: count such statements apart). THE CARD IS WHAT COUNTS. Prove the row's statement (the work); the ties are given (YtbnmgneaofhdiaaGreatDoorTie.lean); close each card by the builder's one call (the guide's Derived/Test/ToyasCard.lean, 'card_holds'). Laid BY PROGRAM, IN A SANDBOX (cutbox-door.mjs). By AI agents, Wed Nov 11 2026. No macro, syntax, notation, axiom, sorry.
-/
import Derived.Test.YtbnmgneaofhdiaaGreatDoorRows
import GoSem.ClaimSeven
namespace Go.Proofs.YtbnmgneaofhdiaaGreatDoor
namespace Rows

/-- THE TIED CARD OF 'laws.FnParsedTwice'. -/
def fnParsedTwiceCard : Claim7 := { stood := { row := fnParsedTwiceRow, standIns := [], harness := (true, "44f325071ec4c94d3712d9e16d2e604460b302d50f42f4cca634554b17791754"), looks := false }, kinds := [], alts := [], laidByText := true, laidKinds := [.data, .pinned, .pinned], laidTests := true, laidLooks := .later }
def FnParsedTwiceCardSaid : Prop := Claim7.holds Tryz.pinned (.plain (OpenSpec.ofChange fnParsedTwiceSpec)) fnParsedTwiceCard

/-- THE TIED CARD OF 'laws.FnSlashBehind'. -/
def fnSlashBehindCard : Claim7 := { stood := { row := fnSlashBehindRow, standIns := [], harness := (true, "44f325071ec4c94d3712d9e16d2e604460b302d50f42f4cca634554b17791754"), looks := false }, kinds := [], alts := [], laidByText := true, laidKinds := [.data, .pinned, .pinned], laidTests := true, laidLooks := .later }
def FnSlashBehindCardSaid : Prop := Claim7.holds Tryz.pinned (.plain (OpenSpec.ofChange fnSlashBehindSpec)) fnSlashBehindCard

/-- THE TIED CARD OF 'laws.FnTrimmedSlash'. -/
def fnTrimmedSlashCard : Claim7 := { stood := { row := fnTrimmedSlashRow, standIns := [], harness := (true, "44f325071ec4c94d3712d9e16d2e604460b302d50f42f4cca634554b17791754"), looks := false }, kinds := [], alts := [], laidByText := true, laidKinds := [.data, .pinned, .pinned], laidTests := true, laidLooks := .later }
def FnTrimmedSlashCardSaid : Prop := Claim7.holds Tryz.pinned (.plain (OpenSpec.ofChange fnTrimmedSlashSpec)) fnTrimmedSlashCard

/-- THE TIED CARD OF 'laws.FnForTypeTold'. -/
def fnForTypeToldCard : Claim7 := { stood := { row := fnForTypeToldRow, standIns := [], harness := (true, "44f325071ec4c94d3712d9e16d2e604460b302d50f42f4cca634554b17791754"), looks := false }, kinds := [], alts := [], laidByText := true, laidKinds := [.data, .pinned, .pinned], laidTests := true, laidLooks := .later }
def FnForTypeToldCardSaid : Prop := Claim7.holds Tryz.pinned (.plain (OpenSpec.ofChange fnForTypeToldSpec)) fnForTypeToldCard

/-- THE SECOND FORM's CARD OF 'laws.FnParsedTwice'. -/
def fnParsedTwiceUptoCard : Claim7 := { stood := { row := fnParsedTwiceUptoRow, standIns := [], harness := (true, "44f325071ec4c94d3712d9e16d2e604460b302d50f42f4cca634554b17791754"), looks := false }, kinds := [], alts := [], laidByText := true, laidKinds := [.data, .pinned, .pinned], laidTests := true, laidLooks := .later }
def FnParsedTwiceUptoCardSaid : Prop := Claim7.holds Tryz.pinned (.plain (OpenSpec.upto fnParsedTwiceSpec)) fnParsedTwiceUptoCard

/-- THE SECOND FORM's CARD OF 'laws.FnSlashBehind'. -/
def fnSlashBehindUptoCard : Claim7 := { stood := { row := fnSlashBehindUptoRow, standIns := [], harness := (true, "44f325071ec4c94d3712d9e16d2e604460b302d50f42f4cca634554b17791754"), looks := false }, kinds := [], alts := [], laidByText := true, laidKinds := [.data, .pinned, .pinned], laidTests := true, laidLooks := .later }
def FnSlashBehindUptoCardSaid : Prop := Claim7.holds Tryz.pinned (.plain (OpenSpec.upto fnSlashBehindSpec)) fnSlashBehindUptoCard

/-- THE SECOND FORM's CARD OF 'laws.FnTrimmedSlash'. -/
def fnTrimmedSlashUptoCard : Claim7 := { stood := { row := fnTrimmedSlashUptoRow, standIns := [], harness := (true, "44f325071ec4c94d3712d9e16d2e604460b302d50f42f4cca634554b17791754"), looks := false }, kinds := [], alts := [], laidByText := true, laidKinds := [.data, .pinned, .pinned], laidTests := true, laidLooks := .later }
def FnTrimmedSlashUptoCardSaid : Prop := Claim7.holds Tryz.pinned (.plain (OpenSpec.upto fnTrimmedSlashSpec)) fnTrimmedSlashUptoCard

/-- THE SECOND FORM's CARD OF 'laws.FnForTypeTold'. -/
def fnForTypeToldUptoCard : Claim7 := { stood := { row := fnForTypeToldUptoRow, standIns := [], harness := (true, "44f325071ec4c94d3712d9e16d2e604460b302d50f42f4cca634554b17791754"), looks := false }, kinds := [], alts := [], laidByText := true, laidKinds := [.data, .pinned, .pinned], laidTests := true, laidLooks := .later }
def FnForTypeToldUptoCardSaid : Prop := Claim7.holds Tryz.pinned (.plain (OpenSpec.upto fnForTypeToldSpec)) fnForTypeToldUptoCard
end Rows
end Go.Proofs.YtbnmgneaofhdiaaGreatDoor
