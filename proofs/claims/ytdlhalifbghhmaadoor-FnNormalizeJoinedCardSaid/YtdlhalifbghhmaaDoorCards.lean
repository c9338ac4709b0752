/-
  DERIVED. GIVEN WITH THE SEED: THE CARDS: each row of YtdlhalifbghhmaaDoorRows.lean that lists a variable, with what it lists TIED to the program's text (the seventh form; the later family's looks); each row that meets fmt, with fmt's text TOLD by the authors' own Lean function (tested against real Go, not proved from fmt's source: count such statements apart). THE CARD IS WHAT COUNTS. Prove the row's statement (the work); the ties are given (YtdlhalifbghhmaaDoorTie.lean); close each card by the builder's one call (the guide's Derived/Test/ToyasCard.lean, 'card_holds'). Laid BY PROGRAM, IN A SANDBOX (cutbox-door.mjs). By AI agents, Wed Nov 11 2026. No macro, syntax, notation, axiom, sorry.
-/
import Derived.Test.YtdlhalifbghhmaaDoorRows
import GoSem.ClaimSeven
namespace Go.Proofs.YtdlhalifbghhmaaDoor
namespace Rows

/-- THE TIED CARD OF 'laws.FnNormalize'. -/
def fnNormalizeCard : Claim7 := { stood := { row := fnNormalizeRow, standIns := [], harness := (true, "f0f594a709f972f2a8985316f85532954be3d323d37221dd4ca81bc0fb43b9a5"), looks := false }, kinds := [], alts := [], laidByText := true, laidKinds := [.data, .pinned, .pinned], laidTests := true, laidLooks := .later }
def FnNormalizeCardSaid : Prop := Claim7.holds Tryd.pinned (.plain (OpenSpec.ofChange fnNormalizeSpec)) fnNormalizeCard

/-- THE TIED CARD OF 'laws.FnNormalizeJoined'. -/
def fnNormalizeJoinedCard : Claim7 := { stood := { row := fnNormalizeJoinedRow, standIns := [], harness := (true, "f0f594a709f972f2a8985316f85532954be3d323d37221dd4ca81bc0fb43b9a5"), looks := false }, kinds := [], alts := [], laidByText := true, laidKinds := [.data, .pinned, .pinned], laidTests := true, laidLooks := .later }
def FnNormalizeJoinedCardSaid : Prop := Claim7.holds Tryd.pinned (.plain (OpenSpec.ofChange fnNormalizeJoinedSpec)) fnNormalizeJoinedCard

/-- THE SECOND FORM's CARD OF 'laws.FnNormalize'. -/
def fnNormalizeUptoCard : Claim7 := { stood := { row := fnNormalizeUptoRow, standIns := [], harness := (true, "f0f594a709f972f2a8985316f85532954be3d323d37221dd4ca81bc0fb43b9a5"), looks := false }, kinds := [], alts := [], laidByText := true, laidKinds := [.data, .pinned, .pinned], laidTests := true, laidLooks := .later }
def FnNormalizeUptoCardSaid : Prop := Claim7.holds Tryd.pinned (.plain (OpenSpec.upto fnNormalizeSpec)) fnNormalizeUptoCard

/-- THE SECOND FORM's CARD OF 'laws.FnNormalizeJoined'. -/
def fnNormalizeJoinedUptoCard : Claim7 := { stood := { row := fnNormalizeJoinedUptoRow, standIns := [], harness := (true, "f0f594a709f972f2a8985316f85532954be3d323d37221dd4ca81bc0fb43b9a5"), looks := false }, kinds := [], alts := [], laidByText := true, laidKinds := [.data, .pinned, .pinned], laidTests := true, laidLooks := .later }
def FnNormalizeJoinedUptoCardSaid : Prop := Claim7.holds Tryd.pinned (.plain (OpenSpec.upto fnNormalizeJoinedSpec)) fnNormalizeJoinedUptoCard
end Rows
end Go.Proofs.YtdlhalifbghhmaaDoor
