/-
  NARROWER THAN 'FOR EVERY INPUT', by the rows' own cells (each row's printed sentence says how): FnBase: laid · FnContainer: laid · FnExt: laid · FnBaseAndName: laid · FnNormal: laid · FnUnnormalizedNames: laid · FnUnnormalizedSorts: laid · FnForTypeWords: laid · FnTrimmedWords: laid · FnNoLeading: laid · FnResourceNames: laid · FnResourceSorts: laid.
  DERIVED. THE GIVEN ROWS OF THIS SEAT. 12 by the template 'for every input the law returns true; each argument reads behind the call as it read before'; 0 by the template 'total and deterministic' (their statements: YtcmiiboioemelaaGreatDoorTotals.lean).
  GIVEN WITH THE SEED: the statements are not yours to turn. If you find one false, say at which input.
  Laid BY PROGRAM, IN A SANDBOX (cutbox-rows.mjs): the forced cells as the released guide's own fill.sh prints them over the translation b51c61a816b6b73e… (all of the seat's roots in one cut). By AI agents, Wed Nov 11 2026. No macro, syntax, notation, axiom, sorry.
-/
import Derived.Test.YtcmiiboioemelaaGreatDoorChecked
import GoSem.PinnedTables
import GoSem.Claim
import GoSem.ClaimJoined
import GoSem.ClaimMapViews
import Derived.JoinedTies
import Derived.KernelRfl
namespace Go.Proofs.YtcmiiboioemelaaGreatDoor
/- THE CELL 'sum', in the pinned program and in every row, IS THE sha256 OF THE DUMP (.gsa) THAT YtcmiiboioemelaaGreatDoorProg.lean LOADS. Nothing in Lean hashes anything: it is a label: what it is worth is what the hold of that sum in a sandbox is worth. -/
noncomputable def Tryz.pinned : Pinned := { name := "ytcmiiboioemelaagreatdoor", sum := "b51c61a816b6b73eb5cdcf746efa70ec0ef832c1ef20ec4fe17230be81507969", checked := Tryz.checked }
namespace Rows
def none {H : Type} : Left H := { results := [], args := [] }

/- WHAT THE LISTED PACKAGE-LEVEL VARIABLES READ AS WHEN THE CALL BEGINS. Each datum BY PROGRAM (the guide's laid-datum.mjs) off the statement by which the dump's own 'gosem.cut.vars' lays the variable. In a bare row this is a premise. The card (YtcmiiboioemelaaGreatDoorCards.lean) ties it to the program's text. -/
def laid_unicode_utf8_acceptRanges {H : Type} : DataW H := .agg [.agg [.lit (.int .u8 128), .lit (.int .u8 191)], .agg [.lit (.int .u8 160), .lit (.int .u8 191)], .agg [.lit (.int .u8 128), .lit (.int .u8 159)], .agg [.lit (.int .u8 144), .lit (.int .u8 191)], .agg [.lit (.int .u8 128), .lit (.int .u8 143)], .agg [.lit (.int .u8 0), .lit (.int .u8 0)], .agg [.lit (.int .u8 0), .lit (.int .u8 0)], .agg [.lit (.int .u8 0), .lit (.int .u8 0)], .agg [.lit (.int .u8 0), .lit (.int .u8 0)], .agg [.lit (.int .u8 0), .lit (.int .u8 0)], .agg [.lit (.int .u8 0), .lit (.int .u8 0)], .agg [.lit (.int .u8 0), .lit (.int .u8 0)], .agg [.lit (.int .u8 0), .lit (.int .u8 0)], .agg [.lit (.int .u8 0), .lit (.int .u8 0)], .agg [.lit (.int .u8 0), .lit (.int .u8 0)], .agg [.lit (.int .u8 0), .lit (.int .u8 0)]]
/-- One of Go's own tables, pinned by name: the form's constant. -/
def laid_unicode_CaseRanges : DataW Unit := Go.Pinned.caseRanges
/-- One of Go's own tables, pinned by name: the form's constant. -/
def laid_unicode_utf8_first : DataW Unit := Go.Pinned.utf8First

/-- 'laws.FnBase': WHATEVER THE INPUT: true; the input reads as it did. -/
def fnBaseSpec : ChangeSpec := { name := "fnBase", fn := fun _ => fun
  | [d1, d2, d3] => { results := [.lit (.bool true)], args := [d1, d2, d3] }
  | _ => none }
def fnBaseRow : OpenClaim := { program := "ytcmiiboioemelaagreatdoor", sum := "b51c61a816b6b73eb5cdcf746efa70ec0ef832c1ef20ec4fe17230be81507969", func := "pub-trackway/laws.FnBase", spec := "fnBase", inPlace := ["internal/abi.NoEscape", "internal/bytealg.MakeNoZero"], unfollowed := true, recurses := true, named := ["unicode/utf8.first", "unicode/utf8.acceptRanges", "unicode.CaseRanges"], apart := false, laid := [("unicode/utf8.acceptRanges", laid_unicode_utf8_acceptRanges), ("unicode.CaseRanges", laid_unicode_CaseRanges), ("unicode/utf8.first", laid_unicode_utf8_first)] }
def FnBaseSaid : Prop := fnBaseRow.holds Tryz.pinned (OpenSpec.ofChange fnBaseSpec)

/-- ITS FALSE NEIGHBOUR: 'it returns false'. Refute it at one input. -/
def fnBaseWrong : ChangeSpec := { name := "fnBase", fn := fun _ => fun
  | [d1, d2, d3] => { results := [.lit (.bool false)], args := [d1, d2, d3] }
  | _ => none }
def FnBaseWrongFalsely : Prop := fnBaseRow.holds Tryz.pinned (OpenSpec.ofChange fnBaseWrong)

/-- 'laws.FnContainer': WHATEVER THE INPUT: true; the input reads as it did. -/
def fnContainerSpec : ChangeSpec := { name := "fnContainer", fn := fun _ => fun
  | [d1, d2, d3] => { results := [.lit (.bool true)], args := [d1, d2, d3] }
  | _ => none }
def fnContainerRow : OpenClaim := { program := "ytcmiiboioemelaagreatdoor", sum := "b51c61a816b6b73eb5cdcf746efa70ec0ef832c1ef20ec4fe17230be81507969", func := "pub-trackway/laws.FnContainer", spec := "fnContainer", inPlace := ["internal/abi.NoEscape", "internal/bytealg.MakeNoZero"], unfollowed := true, recurses := true, named := ["unicode/utf8.first", "unicode/utf8.acceptRanges", "unicode.CaseRanges"], apart := false, laid := [("unicode/utf8.acceptRanges", laid_unicode_utf8_acceptRanges), ("unicode.CaseRanges", laid_unicode_CaseRanges), ("unicode/utf8.first", laid_unicode_utf8_first)] }
def FnContainerSaid : Prop := fnContainerRow.holds Tryz.pinned (OpenSpec.ofChange fnContainerSpec)

/-- ITS FALSE NEIGHBOUR: 'it returns false'. Refute it at one input. -/
def fnContainerWrong : ChangeSpec := { name := "fnContainer", fn := fun _ => fun
  | [d1, d2, d3] => { results := [.lit (.bool false)], args := [d1, d2, d3] }
  | _ => none }
def FnContainerWrongFalsely : Prop := fnContainerRow.holds Tryz.pinned (OpenSpec.ofChange fnContainerWrong)

/-- 'laws.FnExt': WHATEVER THE INPUT: true; the input reads as it did. -/
def fnExtSpec : ChangeSpec := { name := "fnExt", fn := fun _ => fun
  | [d1, d2, d3] => { results := [.lit (.bool true)], args := [d1, d2, d3] }
  | _ => none }
def fnExtRow : OpenClaim := { program := "ytcmiiboioemelaagreatdoor", sum := "b51c61a816b6b73eb5cdcf746efa70ec0ef832c1ef20ec4fe17230be81507969", func := "pub-trackway/laws.FnExt", spec := "fnExt", inPlace := ["internal/abi.NoEscape", "internal/bytealg.MakeNoZero"], unfollowed := true, recurses := true, named := ["unicode/utf8.first", "unicode/utf8.acceptRanges", "unicode.CaseRanges"], apart := false, laid := [("unicode/utf8.acceptRanges", laid_unicode_utf8_acceptRanges), ("unicode.CaseRanges", laid_unicode_CaseRanges), ("unicode/utf8.first", laid_unicode_utf8_first)] }
def FnExtSaid : Prop := fnExtRow.holds Tryz.pinned (OpenSpec.ofChange fnExtSpec)

/-- ITS FALSE NEIGHBOUR: 'it returns false'. Refute it at one input. -/
def fnExtWrong : ChangeSpec := { name := "fnExt", fn := fun _ => fun
  | [d1, d2, d3] => { results := [.lit (.bool false)], args := [d1, d2, d3] }
  | _ => none }
def FnExtWrongFalsely : Prop := fnExtRow.holds Tryz.pinned (OpenSpec.ofChange fnExtWrong)

/-- 'laws.FnBaseAndName': WHATEVER THE INPUT: true; the input reads as it did. -/
def fnBaseAndNameSpec : ChangeSpec := { name := "fnBaseAndName", fn := fun _ => fun
  | [d1, d2, d3] => { results := [.lit (.bool true)], args := [d1, d2, d3] }
  | _ => none }
def fnBaseAndNameRow : OpenClaim := { program := "ytcmiiboioemelaagreatdoor", sum := "b51c61a816b6b73eb5cdcf746efa70ec0ef832c1ef20ec4fe17230be81507969", func := "pub-trackway/laws.FnBaseAndName", spec := "fnBaseAndName", inPlace := ["internal/abi.NoEscape", "internal/bytealg.MakeNoZero"], unfollowed := true, recurses := true, named := ["unicode/utf8.first", "unicode/utf8.acceptRanges", "unicode.CaseRanges"], apart := false, laid := [("unicode/utf8.acceptRanges", laid_unicode_utf8_acceptRanges), ("unicode.CaseRanges", laid_unicode_CaseRanges), ("unicode/utf8.first", laid_unicode_utf8_first)] }
def FnBaseAndNameSaid : Prop := fnBaseAndNameRow.holds Tryz.pinned (OpenSpec.ofChange fnBaseAndNameSpec)

/-- ITS FALSE NEIGHBOUR: 'it returns false'. Refute it at one input. -/
def fnBaseAndNameWrong : ChangeSpec := { name := "fnBaseAndName", fn := fun _ => fun
  | [d1, d2, d3] => { results := [.lit (.bool false)], args := [d1, d2, d3] }
  | _ => none }
def FnBaseAndNameWrongFalsely : Prop := fnBaseAndNameRow.holds Tryz.pinned (OpenSpec.ofChange fnBaseAndNameWrong)

/-- 'laws.FnNormal': WHATEVER THE INPUT: true; the input reads as it did. -/
def fnNormalSpec : ChangeSpec := { name := "fnNormal", fn := fun _ => fun
  | [d1, d2, d3] => { results := [.lit (.bool true)], args := [d1, d2, d3] }
  | _ => none }
def fnNormalRow : OpenClaim := { program := "ytcmiiboioemelaagreatdoor", sum := "b51c61a816b6b73eb5cdcf746efa70ec0ef832c1ef20ec4fe17230be81507969", func := "pub-trackway/laws.FnNormal", spec := "fnNormal", inPlace := ["internal/abi.NoEscape", "internal/bytealg.MakeNoZero"], unfollowed := true, recurses := true, named := ["unicode/utf8.first", "unicode/utf8.acceptRanges", "unicode.CaseRanges"], apart := false, laid := [("unicode/utf8.acceptRanges", laid_unicode_utf8_acceptRanges), ("unicode.CaseRanges", laid_unicode_CaseRanges), ("unicode/utf8.first", laid_unicode_utf8_first)] }
def FnNormalSaid : Prop := fnNormalRow.holds Tryz.pinned (OpenSpec.ofChange fnNormalSpec)

/-- ITS FALSE NEIGHBOUR: 'it returns false'. Refute it at one input. -/
def fnNormalWrong : ChangeSpec := { name := "fnNormal", fn := fun _ => fun
  | [d1, d2, d3] => { results := [.lit (.bool false)], args := [d1, d2, d3] }
  | _ => none }
def FnNormalWrongFalsely : Prop := fnNormalRow.holds Tryz.pinned (OpenSpec.ofChange fnNormalWrong)

/-- 'laws.FnUnnormalizedNames': WHATEVER THE INPUT: true; the input reads as it did. -/
def fnUnnormalizedNamesSpec : ChangeSpec := { name := "fnUnnormalizedNames", fn := fun _ => fun
  | [d1, d2, d3] => { results := [.lit (.bool true)], args := [d1, d2, d3] }
  | _ => none }
def fnUnnormalizedNamesRow : OpenClaim := { program := "ytcmiiboioemelaagreatdoor", sum := "b51c61a816b6b73eb5cdcf746efa70ec0ef832c1ef20ec4fe17230be81507969", func := "pub-trackway/laws.FnUnnormalizedNames", spec := "fnUnnormalizedNames", inPlace := ["internal/abi.NoEscape", "internal/bytealg.MakeNoZero"], unfollowed := true, recurses := true, named := ["unicode/utf8.first", "unicode/utf8.acceptRanges", "unicode.CaseRanges"], apart := false, laid := [("unicode/utf8.acceptRanges", laid_unicode_utf8_acceptRanges), ("unicode.CaseRanges", laid_unicode_CaseRanges), ("unicode/utf8.first", laid_unicode_utf8_first)] }
def FnUnnormalizedNamesSaid : Prop := fnUnnormalizedNamesRow.holds Tryz.pinned (OpenSpec.ofChange fnUnnormalizedNamesSpec)

/-- ITS FALSE NEIGHBOUR: 'it returns false'. Refute it at one input. -/
def fnUnnormalizedNamesWrong : ChangeSpec := { name := "fnUnnormalizedNames", fn := fun _ => fun
  | [d1, d2, d3] => { results := [.lit (.bool false)], args := [d1, d2, d3] }
  | _ => none }
def FnUnnormalizedNamesWrongFalsely : Prop := fnUnnormalizedNamesRow.holds Tryz.pinned (OpenSpec.ofChange fnUnnormalizedNamesWrong)

/-- 'laws.FnUnnormalizedSorts': WHATEVER THE INPUT: true; the input reads as it did. -/
def fnUnnormalizedSortsSpec : ChangeSpec := { name := "fnUnnormalizedSorts", fn := fun _ => fun
  | [d1, d2, d3] => { results := [.lit (.bool true)], args := [d1, d2, d3] }
  | _ => none }
def fnUnnormalizedSortsRow : OpenClaim := { program := "ytcmiiboioemelaagreatdoor", sum := "b51c61a816b6b73eb5cdcf746efa70ec0ef832c1ef20ec4fe17230be81507969", func := "pub-trackway/laws.FnUnnormalizedSorts", spec := "fnUnnormalizedSorts", inPlace := ["internal/abi.NoEscape", "internal/bytealg.MakeNoZero"], unfollowed := true, recurses := true, named := ["unicode/utf8.first", "unicode/utf8.acceptRanges", "unicode.CaseRanges"], apart := false, laid := [("unicode/utf8.acceptRanges", laid_unicode_utf8_acceptRanges), ("unicode.CaseRanges", laid_unicode_CaseRanges), ("unicode/utf8.first", laid_unicode_utf8_first)] }
def FnUnnormalizedSortsSaid : Prop := fnUnnormalizedSortsRow.holds Tryz.pinned (OpenSpec.ofChange fnUnnormalizedSortsSpec)

/-- ITS FALSE NEIGHBOUR: 'it returns false'. Refute it at one input. -/
def fnUnnormalizedSortsWrong : ChangeSpec := { name := "fnUnnormalizedSorts", fn := fun _ => fun
  | [d1, d2, d3] => { results := [.lit (.bool false)], args := [d1, d2, d3] }
  | _ => none }
def FnUnnormalizedSortsWrongFalsely : Prop := fnUnnormalizedSortsRow.holds Tryz.pinned (OpenSpec.ofChange fnUnnormalizedSortsWrong)

/-- 'laws.FnForTypeWords': WHATEVER THE INPUT: true; the input reads as it did. -/
def fnForTypeWordsSpec : ChangeSpec := { name := "fnForTypeWords", fn := fun _ => fun
  | [d1, d2, d3, d4] => { results := [.lit (.bool true)], args := [d1, d2, d3, d4] }
  | _ => none }
def fnForTypeWordsRow : OpenClaim := { program := "ytcmiiboioemelaagreatdoor", sum := "b51c61a816b6b73eb5cdcf746efa70ec0ef832c1ef20ec4fe17230be81507969", func := "pub-trackway/laws.FnForTypeWords", spec := "fnForTypeWords", inPlace := ["internal/abi.NoEscape", "internal/bytealg.MakeNoZero"], unfollowed := true, recurses := true, named := ["unicode/utf8.first", "unicode/utf8.acceptRanges", "unicode.CaseRanges"], apart := false, laid := [("unicode/utf8.acceptRanges", laid_unicode_utf8_acceptRanges), ("unicode.CaseRanges", laid_unicode_CaseRanges), ("unicode/utf8.first", laid_unicode_utf8_first)] }
def FnForTypeWordsSaid : Prop := fnForTypeWordsRow.holds Tryz.pinned (OpenSpec.ofChange fnForTypeWordsSpec)

/-- ITS FALSE NEIGHBOUR: 'it returns false'. Refute it at one input. -/
def fnForTypeWordsWrong : ChangeSpec := { name := "fnForTypeWords", fn := fun _ => fun
  | [d1, d2, d3, d4] => { results := [.lit (.bool false)], args := [d1, d2, d3, d4] }
  | _ => none }
def FnForTypeWordsWrongFalsely : Prop := fnForTypeWordsRow.holds Tryz.pinned (OpenSpec.ofChange fnForTypeWordsWrong)

/-- 'laws.FnTrimmedWords': WHATEVER THE INPUT: true; the input reads as it did. -/
def fnTrimmedWordsSpec : ChangeSpec := { name := "fnTrimmedWords", fn := fun _ => fun
  | [d1, d2, d3] => { results := [.lit (.bool true)], args := [d1, d2, d3] }
  | _ => none }
def fnTrimmedWordsRow : OpenClaim := { program := "ytcmiiboioemelaagreatdoor", sum := "b51c61a816b6b73eb5cdcf746efa70ec0ef832c1ef20ec4fe17230be81507969", func := "pub-trackway/laws.FnTrimmedWords", spec := "fnTrimmedWords", inPlace := ["internal/abi.NoEscape", "internal/bytealg.MakeNoZero"], unfollowed := true, recurses := true, named := ["unicode/utf8.first", "unicode/utf8.acceptRanges", "unicode.CaseRanges"], apart := false, laid := [("unicode/utf8.acceptRanges", laid_unicode_utf8_acceptRanges), ("unicode.CaseRanges", laid_unicode_CaseRanges), ("unicode/utf8.first", laid_unicode_utf8_first)] }
def FnTrimmedWordsSaid : Prop := fnTrimmedWordsRow.holds Tryz.pinned (OpenSpec.ofChange fnTrimmedWordsSpec)

/-- ITS FALSE NEIGHBOUR: 'it returns false'. Refute it at one input. -/
def fnTrimmedWordsWrong : ChangeSpec := { name := "fnTrimmedWords", fn := fun _ => fun
  | [d1, d2, d3] => { results := [.lit (.bool false)], args := [d1, d2, d3] }
  | _ => none }
def FnTrimmedWordsWrongFalsely : Prop := fnTrimmedWordsRow.holds Tryz.pinned (OpenSpec.ofChange fnTrimmedWordsWrong)

/-- 'laws.FnNoLeading': WHATEVER THE INPUT: true; the input reads as it did. -/
def fnNoLeadingSpec : ChangeSpec := { name := "fnNoLeading", fn := fun _ => fun
  | [d1, d2, d3] => { results := [.lit (.bool true)], args := [d1, d2, d3] }
  | _ => none }
def fnNoLeadingRow : OpenClaim := { program := "ytcmiiboioemelaagreatdoor", sum := "b51c61a816b6b73eb5cdcf746efa70ec0ef832c1ef20ec4fe17230be81507969", func := "pub-trackway/laws.FnNoLeading", spec := "fnNoLeading", inPlace := ["internal/abi.NoEscape", "internal/bytealg.MakeNoZero"], unfollowed := true, recurses := true, named := ["unicode/utf8.first", "unicode/utf8.acceptRanges", "unicode.CaseRanges"], apart := false, laid := [("unicode/utf8.acceptRanges", laid_unicode_utf8_acceptRanges), ("unicode.CaseRanges", laid_unicode_CaseRanges), ("unicode/utf8.first", laid_unicode_utf8_first)] }
def FnNoLeadingSaid : Prop := fnNoLeadingRow.holds Tryz.pinned (OpenSpec.ofChange fnNoLeadingSpec)

/-- ITS FALSE NEIGHBOUR: 'it returns false'. Refute it at one input. -/
def fnNoLeadingWrong : ChangeSpec := { name := "fnNoLeading", fn := fun _ => fun
  | [d1, d2, d3] => { results := [.lit (.bool false)], args := [d1, d2, d3] }
  | _ => none }
def FnNoLeadingWrongFalsely : Prop := fnNoLeadingRow.holds Tryz.pinned (OpenSpec.ofChange fnNoLeadingWrong)

/-- 'laws.FnResourceNames': WHATEVER THE INPUT: true; the input reads as it did. -/
def fnResourceNamesSpec : ChangeSpec := { name := "fnResourceNames", fn := fun _ => fun
  | [d1, d2, d3] => { results := [.lit (.bool true)], args := [d1, d2, d3] }
  | _ => none }
def fnResourceNamesRow : OpenClaim := { program := "ytcmiiboioemelaagreatdoor", sum := "b51c61a816b6b73eb5cdcf746efa70ec0ef832c1ef20ec4fe17230be81507969", func := "pub-trackway/laws.FnResourceNames", spec := "fnResourceNames", inPlace := ["internal/abi.NoEscape", "internal/bytealg.MakeNoZero"], unfollowed := true, recurses := true, named := ["unicode/utf8.first", "unicode/utf8.acceptRanges", "unicode.CaseRanges"], apart := false, laid := [("unicode/utf8.acceptRanges", laid_unicode_utf8_acceptRanges), ("unicode.CaseRanges", laid_unicode_CaseRanges), ("unicode/utf8.first", laid_unicode_utf8_first)] }
def FnResourceNamesSaid : Prop := fnResourceNamesRow.holds Tryz.pinned (OpenSpec.ofChange fnResourceNamesSpec)

/-- ITS FALSE NEIGHBOUR: 'it returns false'. Refute it at one input. -/
def fnResourceNamesWrong : ChangeSpec := { name := "fnResourceNames", fn := fun _ => fun
  | [d1, d2, d3] => { results := [.lit (.bool false)], args := [d1, d2, d3] }
  | _ => none }
def FnResourceNamesWrongFalsely : Prop := fnResourceNamesRow.holds Tryz.pinned (OpenSpec.ofChange fnResourceNamesWrong)

/-- 'laws.FnResourceSorts': WHATEVER THE INPUT: true; the input reads as it did. -/
def fnResourceSortsSpec : ChangeSpec := { name := "fnResourceSorts", fn := fun _ => fun
  | [d1, d2, d3] => { results := [.lit (.bool true)], args := [d1, d2, d3] }
  | _ => none }
def fnResourceSortsRow : OpenClaim := { program := "ytcmiiboioemelaagreatdoor", sum := "b51c61a816b6b73eb5cdcf746efa70ec0ef832c1ef20ec4fe17230be81507969", func := "pub-trackway/laws.FnResourceSorts", spec := "fnResourceSorts", inPlace := ["internal/abi.NoEscape", "internal/bytealg.MakeNoZero"], unfollowed := true, recurses := true, named := ["unicode/utf8.first", "unicode/utf8.acceptRanges", "unicode.CaseRanges"], apart := false, laid := [("unicode/utf8.acceptRanges", laid_unicode_utf8_acceptRanges), ("unicode.CaseRanges", laid_unicode_CaseRanges), ("unicode/utf8.first", laid_unicode_utf8_first)] }
def FnResourceSortsSaid : Prop := fnResourceSortsRow.holds Tryz.pinned (OpenSpec.ofChange fnResourceSortsSpec)

/-- ITS FALSE NEIGHBOUR: 'it returns false'. Refute it at one input. -/
def fnResourceSortsWrong : ChangeSpec := { name := "fnResourceSorts", fn := fun _ => fun
  | [d1, d2, d3] => { results := [.lit (.bool false)], args := [d1, d2, d3] }
  | _ => none }
def FnResourceSortsWrongFalsely : Prop := fnResourceSortsRow.holds Tryz.pinned (OpenSpec.ofChange fnResourceSortsWrong)

/- THE SECOND FORM. 'bulk': how many values and letters a reading holds, each counted each time it is reached (what is shared counts as often as it is met; a slice's spare places count too). A statement '..UptoSaid' is the law's where the arguments, and the package variables that the reading takes, are together of bulk at most 1048576: NARROWER than '..Said'. Prove '..Said' where nothing that the law and all that it calls make is longer than what came in: it says more and counts as full. Else prove '..UptoSaid'. A law counts once. -/
mutual
def uptoBulk {H : Type} : DataW H → Nat
  | .lit (.string bytes) => bytes.length + 1
  | .lit _ => 1
  | .nil => 1
  | .ptr d => uptoBulk d + 1
  | .slice elems spare => uptoBulkAll elems + uptoBulkAll spare + 1
  | .agg parts => uptoBulkAll parts + 1
  | .iface _ d => uptoBulk d + 1
  | .map entries => uptoBulkEntries entries + 1
  | .held _ => 1
def uptoBulkAll {H : Type} : List (DataW H) → Nat
  | [] => 0
  | d :: r => uptoBulk d + uptoBulkAll r
def uptoBulkEntries {H : Type} : List (Lit × DataW H) → Nat
  | [] => 0
  | x :: r => uptoBulkEntry x + uptoBulkEntries r
def uptoBulkEntry {H : Type} : Lit × DataW H → Nat
  | (.string bytes, d) => bytes.length + uptoBulk d + 1
  | (_, d) => uptoBulk d + 1
 end
def uptoSmall : (H : Type) → List (DataW H) → Bool := fun _ ds => decide (uptoBulkAll ds ≤ 1048576)
def OpenSpec.upto (s : _root_.Go.ChangeSpec) : _root_.Go.OpenSpec := { _root_.Go.OpenSpec.ofChange s with cond := some uptoSmall }

/-- 'laws.FnBase', WHERE WHAT IT READS IS OF BULK AT MOST 1048576: true; the input reads as it did. -/
def fnBaseUptoRow : OpenClaim := { program := "ytcmiiboioemelaagreatdoor", sum := "b51c61a816b6b73eb5cdcf746efa70ec0ef832c1ef20ec4fe17230be81507969", func := "pub-trackway/laws.FnBase", spec := "fnBase", inPlace := ["internal/abi.NoEscape", "internal/bytealg.MakeNoZero"], unfollowed := true, recurses := true, named := ["unicode/utf8.first", "unicode/utf8.acceptRanges", "unicode.CaseRanges"], apart := false, laid := [("unicode/utf8.acceptRanges", laid_unicode_utf8_acceptRanges), ("unicode.CaseRanges", laid_unicode_CaseRanges), ("unicode/utf8.first", laid_unicode_utf8_first)], narrowed := true }
def FnBaseUptoSaid : Prop := fnBaseUptoRow.holds Tryz.pinned (OpenSpec.upto fnBaseSpec)

/-- 'laws.FnContainer', WHERE WHAT IT READS IS OF BULK AT MOST 1048576: true; the input reads as it did. -/
def fnContainerUptoRow : OpenClaim := { program := "ytcmiiboioemelaagreatdoor", sum := "b51c61a816b6b73eb5cdcf746efa70ec0ef832c1ef20ec4fe17230be81507969", func := "pub-trackway/laws.FnContainer", spec := "fnContainer", inPlace := ["internal/abi.NoEscape", "internal/bytealg.MakeNoZero"], unfollowed := true, recurses := true, named := ["unicode/utf8.first", "unicode/utf8.acceptRanges", "unicode.CaseRanges"], apart := false, laid := [("unicode/utf8.acceptRanges", laid_unicode_utf8_acceptRanges), ("unicode.CaseRanges", laid_unicode_CaseRanges), ("unicode/utf8.first", laid_unicode_utf8_first)], narrowed := true }
def FnContainerUptoSaid : Prop := fnContainerUptoRow.holds Tryz.pinned (OpenSpec.upto fnContainerSpec)

/-- 'laws.FnExt', WHERE WHAT IT READS IS OF BULK AT MOST 1048576: true; the input reads as it did. -/
def fnExtUptoRow : OpenClaim := { program := "ytcmiiboioemelaagreatdoor", sum := "b51c61a816b6b73eb5cdcf746efa70ec0ef832c1ef20ec4fe17230be81507969", func := "pub-trackway/laws.FnExt", spec := "fnExt", inPlace := ["internal/abi.NoEscape", "internal/bytealg.MakeNoZero"], unfollowed := true, recurses := true, named := ["unicode/utf8.first", "unicode/utf8.acceptRanges", "unicode.CaseRanges"], apart := false, laid := [("unicode/utf8.acceptRanges", laid_unicode_utf8_acceptRanges), ("unicode.CaseRanges", laid_unicode_CaseRanges), ("unicode/utf8.first", laid_unicode_utf8_first)], narrowed := true }
def FnExtUptoSaid : Prop := fnExtUptoRow.holds Tryz.pinned (OpenSpec.upto fnExtSpec)

/-- 'laws.FnBaseAndName', WHERE WHAT IT READS IS OF BULK AT MOST 1048576: true; the input reads as it did. -/
def fnBaseAndNameUptoRow : OpenClaim := { program := "ytcmiiboioemelaagreatdoor", sum := "b51c61a816b6b73eb5cdcf746efa70ec0ef832c1ef20ec4fe17230be81507969", func := "pub-trackway/laws.FnBaseAndName", spec := "fnBaseAndName", inPlace := ["internal/abi.NoEscape", "internal/bytealg.MakeNoZero"], unfollowed := true, recurses := true, named := ["unicode/utf8.first", "unicode/utf8.acceptRanges", "unicode.CaseRanges"], apart := false, laid := [("unicode/utf8.acceptRanges", laid_unicode_utf8_acceptRanges), ("unicode.CaseRanges", laid_unicode_CaseRanges), ("unicode/utf8.first", laid_unicode_utf8_first)], narrowed := true }
def FnBaseAndNameUptoSaid : Prop := fnBaseAndNameUptoRow.holds Tryz.pinned (OpenSpec.upto fnBaseAndNameSpec)

/-- 'laws.FnNormal', WHERE WHAT IT READS IS OF BULK AT MOST 1048576: true; the input reads as it did. -/
def fnNormalUptoRow : OpenClaim := { program := "ytcmiiboioemelaagreatdoor", sum := "b51c61a816b6b73eb5cdcf746efa70ec0ef832c1ef20ec4fe17230be81507969", func := "pub-trackway/laws.FnNormal", spec := "fnNormal", inPlace := ["internal/abi.NoEscape", "internal/bytealg.MakeNoZero"], unfollowed := true, recurses := true, named := ["unicode/utf8.first", "unicode/utf8.acceptRanges", "unicode.CaseRanges"], apart := false, laid := [("unicode/utf8.acceptRanges", laid_unicode_utf8_acceptRanges), ("unicode.CaseRanges", laid_unicode_CaseRanges), ("unicode/utf8.first", laid_unicode_utf8_first)], narrowed := true }
def FnNormalUptoSaid : Prop := fnNormalUptoRow.holds Tryz.pinned (OpenSpec.upto fnNormalSpec)

/-- 'laws.FnUnnormalizedNames', WHERE WHAT IT READS IS OF BULK AT MOST 1048576: true; the input reads as it did. -/
def fnUnnormalizedNamesUptoRow : OpenClaim := { program := "ytcmiiboioemelaagreatdoor", sum := "b51c61a816b6b73eb5cdcf746efa70ec0ef832c1ef20ec4fe17230be81507969", func := "pub-trackway/laws.FnUnnormalizedNames", spec := "fnUnnormalizedNames", inPlace := ["internal/abi.NoEscape", "internal/bytealg.MakeNoZero"], unfollowed := true, recurses := true, named := ["unicode/utf8.first", "unicode/utf8.acceptRanges", "unicode.CaseRanges"], apart := false, laid := [("unicode/utf8.acceptRanges", laid_unicode_utf8_acceptRanges), ("unicode.CaseRanges", laid_unicode_CaseRanges), ("unicode/utf8.first", laid_unicode_utf8_first)], narrowed := true }
def FnUnnormalizedNamesUptoSaid : Prop := fnUnnormalizedNamesUptoRow.holds Tryz.pinned (OpenSpec.upto fnUnnormalizedNamesSpec)

/-- 'laws.FnUnnormalizedSorts', WHERE WHAT IT READS IS OF BULK AT MOST 1048576: true; the input reads as it did. -/
def fnUnnormalizedSortsUptoRow : OpenClaim := { program := "ytcmiiboioemelaagreatdoor", sum := "b51c61a816b6b73eb5cdcf746efa70ec0ef832c1ef20ec4fe17230be81507969", func := "pub-trackway/laws.FnUnnormalizedSorts", spec := "fnUnnormalizedSorts", inPlace := ["internal/abi.NoEscape", "internal/bytealg.MakeNoZero"], unfollowed := true, recurses := true, named := ["unicode/utf8.first", "unicode/utf8.acceptRanges", "unicode.CaseRanges"], apart := false, laid := [("unicode/utf8.acceptRanges", laid_unicode_utf8_acceptRanges), ("unicode.CaseRanges", laid_unicode_CaseRanges), ("unicode/utf8.first", laid_unicode_utf8_first)], narrowed := true }
def FnUnnormalizedSortsUptoSaid : Prop := fnUnnormalizedSortsUptoRow.holds Tryz.pinned (OpenSpec.upto fnUnnormalizedSortsSpec)

/-- 'laws.FnForTypeWords', WHERE WHAT IT READS IS OF BULK AT MOST 1048576: true; the input reads as it did. -/
def fnForTypeWordsUptoRow : OpenClaim := { program := "ytcmiiboioemelaagreatdoor", sum := "b51c61a816b6b73eb5cdcf746efa70ec0ef832c1ef20ec4fe17230be81507969", func := "pub-trackway/laws.FnForTypeWords", spec := "fnForTypeWords", inPlace := ["internal/abi.NoEscape", "internal/bytealg.MakeNoZero"], unfollowed := true, recurses := true, named := ["unicode/utf8.first", "unicode/utf8.acceptRanges", "unicode.CaseRanges"], apart := false, laid := [("unicode/utf8.acceptRanges", laid_unicode_utf8_acceptRanges), ("unicode.CaseRanges", laid_unicode_CaseRanges), ("unicode/utf8.first", laid_unicode_utf8_first)], narrowed := true }
def FnForTypeWordsUptoSaid : Prop := fnForTypeWordsUptoRow.holds Tryz.pinned (OpenSpec.upto fnForTypeWordsSpec)

/-- 'laws.FnTrimmedWords', WHERE WHAT IT READS IS OF BULK AT MOST 1048576: true; the input reads as it did. -/
def fnTrimmedWordsUptoRow : OpenClaim := { program := "ytcmiiboioemelaagreatdoor", sum := "b51c61a816b6b73eb5cdcf746efa70ec0ef832c1ef20ec4fe17230be81507969", func := "pub-trackway/laws.FnTrimmedWords", spec := "fnTrimmedWords", inPlace := ["internal/abi.NoEscape", "internal/bytealg.MakeNoZero"], unfollowed := true, recurses := true, named := ["unicode/utf8.first", "unicode/utf8.acceptRanges", "unicode.CaseRanges"], apart := false, laid := [("unicode/utf8.acceptRanges", laid_unicode_utf8_acceptRanges), ("unicode.CaseRanges", laid_unicode_CaseRanges), ("unicode/utf8.first", laid_unicode_utf8_first)], narrowed := true }
def FnTrimmedWordsUptoSaid : Prop := fnTrimmedWordsUptoRow.holds Tryz.pinned (OpenSpec.upto fnTrimmedWordsSpec)

/-- 'laws.FnNoLeading', WHERE WHAT IT READS IS OF BULK AT MOST 1048576: true; the input reads as it did. -/
def fnNoLeadingUptoRow : OpenClaim := { program := "ytcmiiboioemelaagreatdoor", sum := "b51c61a816b6b73eb5cdcf746efa70ec0ef832c1ef20ec4fe17230be81507969", func := "pub-trackway/laws.FnNoLeading", spec := "fnNoLeading", inPlace := ["internal/abi.NoEscape", "internal/bytealg.MakeNoZero"], unfollowed := true, recurses := true, named := ["unicode/utf8.first", "unicode/utf8.acceptRanges", "unicode.CaseRanges"], apart := false, laid := [("unicode/utf8.acceptRanges", laid_unicode_utf8_acceptRanges), ("unicode.CaseRanges", laid_unicode_CaseRanges), ("unicode/utf8.first", laid_unicode_utf8_first)], narrowed := true }
def FnNoLeadingUptoSaid : Prop := fnNoLeadingUptoRow.holds Tryz.pinned (OpenSpec.upto fnNoLeadingSpec)

/-- 'laws.FnResourceNames', WHERE WHAT IT READS IS OF BULK AT MOST 1048576: true; the input reads as it did. -/
def fnResourceNamesUptoRow : OpenClaim := { program := "ytcmiiboioemelaagreatdoor", sum := "b51c61a816b6b73eb5cdcf746efa70ec0ef832c1ef20ec4fe17230be81507969", func := "pub-trackway/laws.FnResourceNames", spec := "fnResourceNames", inPlace := ["internal/abi.NoEscape", "internal/bytealg.MakeNoZero"], unfollowed := true, recurses := true, named := ["unicode/utf8.first", "unicode/utf8.acceptRanges", "unicode.CaseRanges"], apart := false, laid := [("unicode/utf8.acceptRanges", laid_unicode_utf8_acceptRanges), ("unicode.CaseRanges", laid_unicode_CaseRanges), ("unicode/utf8.first", laid_unicode_utf8_first)], narrowed := true }
def FnResourceNamesUptoSaid : Prop := fnResourceNamesUptoRow.holds Tryz.pinned (OpenSpec.upto fnResourceNamesSpec)

/-- 'laws.FnResourceSorts', WHERE WHAT IT READS IS OF BULK AT MOST 1048576: true; the input reads as it did. -/
def fnResourceSortsUptoRow : OpenClaim := { program := "ytcmiiboioemelaagreatdoor", sum := "b51c61a816b6b73eb5cdcf746efa70ec0ef832c1ef20ec4fe17230be81507969", func := "pub-trackway/laws.FnResourceSorts", spec := "fnResourceSorts", inPlace := ["internal/abi.NoEscape", "internal/bytealg.MakeNoZero"], unfollowed := true, recurses := true, named := ["unicode/utf8.first", "unicode/utf8.acceptRanges", "unicode.CaseRanges"], apart := false, laid := [("unicode/utf8.acceptRanges", laid_unicode_utf8_acceptRanges), ("unicode.CaseRanges", laid_unicode_CaseRanges), ("unicode/utf8.first", laid_unicode_utf8_first)], narrowed := true }
def FnResourceSortsUptoSaid : Prop := fnResourceSortsUptoRow.holds Tryz.pinned (OpenSpec.upto fnResourceSortsSpec)

end Rows
end Go.Proofs.YtcmiiboioemelaaGreatDoor
