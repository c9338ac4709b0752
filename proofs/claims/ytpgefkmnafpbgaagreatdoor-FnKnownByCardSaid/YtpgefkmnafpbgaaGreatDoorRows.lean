/-
  NARROWER THAN 'FOR EVERY INPUT', by the rows' own cells (each row's printed sentence says how): FnExt: laid · FnFormatListed: laid · FnKnownBy: laid · FnLangsListed: laid · FnLeafIndex: laid · FnLogicalName: laid · FnNameBegins: laid · FnNameOne: laid · FnNoWords: laid · FnPathSlash: laid · FnPlainLang: laid · FnWordsCount: laid.
  DERIVED. THE GIVEN ROWS OF THIS SEAT. 12 by the template 'for every input the law returns true; each argument reads behind the call as it read before'; 0 by the template 'total and deterministic' (their statements: YtpgefkmnafpbgaaGreatDoorTotals.lean).
  GIVEN WITH THE SEED: the statements are not yours to turn. If you find one false, say at which input.
  Laid BY PROGRAM, IN A SANDBOX (cutbox-rows.mjs): the forced cells as the released guide's own fill.sh prints them over the translation e6ce208d493ee838… (all of the seat's roots in one cut). By AI agents, Wed Nov 11 2026. No macro, syntax, notation, axiom, sorry.
-/
import Derived.Test.YtpgefkmnafpbgaaGreatDoorChecked
import GoSem.PinnedTables
import GoSem.Claim
import GoSem.ClaimJoined
import GoSem.ClaimMapViews
import Derived.JoinedTies
import Derived.KernelRfl
namespace Go.Proofs.YtpgefkmnafpbgaaGreatDoor
/- THE CELL 'sum', in the pinned program and in every row, IS THE sha256 OF THE DUMP (.gsa) THAT YtpgefkmnafpbgaaGreatDoorProg.lean LOADS. Nothing in Lean hashes anything: it is a label: what it is worth is what the hold of that sum in a sandbox is worth. -/
noncomputable def Tryz.pinned : Pinned := { name := "ytpgefkmnafpbgaagreatdoor", sum := "e6ce208d493ee838d7cab819a193fe90203cbaa75b322290276d5d3a8a78d772", checked := Tryz.checked }
namespace Rows
def none {H : Type} : Left H := { results := [], args := [] }

/- WHAT THE LISTED PACKAGE-LEVEL VARIABLES READ AS WHEN THE CALL BEGINS. Each datum BY PROGRAM (the guide's laid-datum.mjs) off the statement by which the dump's own 'gosem.cut.vars' lays the variable. In a bare row this is a premise. The card (YtpgefkmnafpbgaaGreatDoorCards.lean) ties it to the program's text. -/
def laid_unicode_utf8_acceptRanges {H : Type} : DataW H := .agg [.agg [.lit (.int .u8 128), .lit (.int .u8 191)], .agg [.lit (.int .u8 160), .lit (.int .u8 191)], .agg [.lit (.int .u8 128), .lit (.int .u8 159)], .agg [.lit (.int .u8 144), .lit (.int .u8 191)], .agg [.lit (.int .u8 128), .lit (.int .u8 143)], .agg [.lit (.int .u8 0), .lit (.int .u8 0)], .agg [.lit (.int .u8 0), .lit (.int .u8 0)], .agg [.lit (.int .u8 0), .lit (.int .u8 0)], .agg [.lit (.int .u8 0), .lit (.int .u8 0)], .agg [.lit (.int .u8 0), .lit (.int .u8 0)], .agg [.lit (.int .u8 0), .lit (.int .u8 0)], .agg [.lit (.int .u8 0), .lit (.int .u8 0)], .agg [.lit (.int .u8 0), .lit (.int .u8 0)], .agg [.lit (.int .u8 0), .lit (.int .u8 0)], .agg [.lit (.int .u8 0), .lit (.int .u8 0)], .agg [.lit (.int .u8 0), .lit (.int .u8 0)]]
/-- One of Go's own tables, pinned by name: the form's constant. -/
def laid_unicode_CaseRanges : DataW Unit := Go.Pinned.caseRanges
/-- One of Go's own tables, pinned by name: the form's constant. -/
def laid_unicode_utf8_first : DataW Unit := Go.Pinned.utf8First

/-- 'laws.FnExt': WHATEVER THE INPUT: true; the input reads as it did. -/
def fnExtSpec : ChangeSpec := { name := "fnExt", fn := fun _ => fun
  | [d1, d2, d3] => { results := [.lit (.bool true)], args := [d1, d2, d3] }
  | _ => none }
def fnExtRow : OpenClaim := { program := "ytpgefkmnafpbgaagreatdoor", sum := "e6ce208d493ee838d7cab819a193fe90203cbaa75b322290276d5d3a8a78d772", func := "pub-trackway/laws.FnExt", spec := "fnExt", inPlace := ["internal/abi.NoEscape", "internal/bytealg.MakeNoZero"], unfollowed := true, recurses := true, named := ["unicode/utf8.first", "unicode/utf8.acceptRanges", "unicode.CaseRanges"], apart := false, laid := [("unicode/utf8.acceptRanges", laid_unicode_utf8_acceptRanges), ("unicode.CaseRanges", laid_unicode_CaseRanges), ("unicode/utf8.first", laid_unicode_utf8_first)] }
def FnExtSaid : Prop := fnExtRow.holds Tryz.pinned (OpenSpec.ofChange fnExtSpec)

/-- ITS FALSE NEIGHBOUR: 'it returns false'. Refute it at one input. -/
def fnExtWrong : ChangeSpec := { name := "fnExt", fn := fun _ => fun
  | [d1, d2, d3] => { results := [.lit (.bool false)], args := [d1, d2, d3] }
  | _ => none }
def FnExtWrongFalsely : Prop := fnExtRow.holds Tryz.pinned (OpenSpec.ofChange fnExtWrong)

/-- 'laws.FnFormatListed': WHATEVER THE INPUT: true; the input reads as it did. -/
def fnFormatListedSpec : ChangeSpec := { name := "fnFormatListed", fn := fun _ => fun
  | [d1, d2, d3] => { results := [.lit (.bool true)], args := [d1, d2, d3] }
  | _ => none }
def fnFormatListedRow : OpenClaim := { program := "ytpgefkmnafpbgaagreatdoor", sum := "e6ce208d493ee838d7cab819a193fe90203cbaa75b322290276d5d3a8a78d772", func := "pub-trackway/laws.FnFormatListed", spec := "fnFormatListed", inPlace := ["internal/abi.NoEscape", "internal/bytealg.MakeNoZero"], unfollowed := true, recurses := true, named := ["unicode/utf8.first", "unicode/utf8.acceptRanges", "unicode.CaseRanges"], apart := false, laid := [("unicode/utf8.acceptRanges", laid_unicode_utf8_acceptRanges), ("unicode.CaseRanges", laid_unicode_CaseRanges), ("unicode/utf8.first", laid_unicode_utf8_first)] }
def FnFormatListedSaid : Prop := fnFormatListedRow.holds Tryz.pinned (OpenSpec.ofChange fnFormatListedSpec)

/-- ITS FALSE NEIGHBOUR: 'it returns false'. Refute it at one input. -/
def fnFormatListedWrong : ChangeSpec := { name := "fnFormatListed", fn := fun _ => fun
  | [d1, d2, d3] => { results := [.lit (.bool false)], args := [d1, d2, d3] }
  | _ => none }
def FnFormatListedWrongFalsely : Prop := fnFormatListedRow.holds Tryz.pinned (OpenSpec.ofChange fnFormatListedWrong)

/-- 'laws.FnKnownBy': WHATEVER THE INPUT: true; the input reads as it did. -/
def fnKnownBySpec : ChangeSpec := { name := "fnKnownBy", fn := fun _ => fun
  | [d1, d2, d3] => { results := [.lit (.bool true)], args := [d1, d2, d3] }
  | _ => none }
def fnKnownByRow : OpenClaim := { program := "ytpgefkmnafpbgaagreatdoor", sum := "e6ce208d493ee838d7cab819a193fe90203cbaa75b322290276d5d3a8a78d772", func := "pub-trackway/laws.FnKnownBy", spec := "fnKnownBy", inPlace := ["internal/abi.NoEscape", "internal/bytealg.MakeNoZero"], unfollowed := true, recurses := true, named := ["unicode/utf8.first", "unicode/utf8.acceptRanges", "unicode.CaseRanges"], apart := false, laid := [("unicode/utf8.acceptRanges", laid_unicode_utf8_acceptRanges), ("unicode.CaseRanges", laid_unicode_CaseRanges), ("unicode/utf8.first", laid_unicode_utf8_first)] }
def FnKnownBySaid : Prop := fnKnownByRow.holds Tryz.pinned (OpenSpec.ofChange fnKnownBySpec)

/-- ITS FALSE NEIGHBOUR: 'it returns false'. Refute it at one input. -/
def fnKnownByWrong : ChangeSpec := { name := "fnKnownBy", fn := fun _ => fun
  | [d1, d2, d3] => { results := [.lit (.bool false)], args := [d1, d2, d3] }
  | _ => none }
def FnKnownByWrongFalsely : Prop := fnKnownByRow.holds Tryz.pinned (OpenSpec.ofChange fnKnownByWrong)

/-- 'laws.FnLangsListed': WHATEVER THE INPUT: true; the input reads as it did. -/
def fnLangsListedSpec : ChangeSpec := { name := "fnLangsListed", fn := fun _ => fun
  | [d1, d2, d3] => { results := [.lit (.bool true)], args := [d1, d2, d3] }
  | _ => none }
def fnLangsListedRow : OpenClaim := { program := "ytpgefkmnafpbgaagreatdoor", sum := "e6ce208d493ee838d7cab819a193fe90203cbaa75b322290276d5d3a8a78d772", func := "pub-trackway/laws.FnLangsListed", spec := "fnLangsListed", inPlace := ["internal/abi.NoEscape", "internal/bytealg.MakeNoZero"], unfollowed := true, recurses := true, named := ["unicode/utf8.first", "unicode/utf8.acceptRanges", "unicode.CaseRanges"], apart := false, laid := [("unicode/utf8.acceptRanges", laid_unicode_utf8_acceptRanges), ("unicode.CaseRanges", laid_unicode_CaseRanges), ("unicode/utf8.first", laid_unicode_utf8_first)] }
def FnLangsListedSaid : Prop := fnLangsListedRow.holds Tryz.pinned (OpenSpec.ofChange fnLangsListedSpec)

/-- ITS FALSE NEIGHBOUR: 'it returns false'. Refute it at one input. -/
def fnLangsListedWrong : ChangeSpec := { name := "fnLangsListed", fn := fun _ => fun
  | [d1, d2, d3] => { results := [.lit (.bool false)], args := [d1, d2, d3] }
  | _ => none }
def FnLangsListedWrongFalsely : Prop := fnLangsListedRow.holds Tryz.pinned (OpenSpec.ofChange fnLangsListedWrong)

/-- 'laws.FnLeafIndex': WHATEVER THE INPUT: true; the input reads as it did. -/
def fnLeafIndexSpec : ChangeSpec := { name := "fnLeafIndex", fn := fun _ => fun
  | [d1, d2, d3] => { results := [.lit (.bool true)], args := [d1, d2, d3] }
  | _ => none }
def fnLeafIndexRow : OpenClaim := { program := "ytpgefkmnafpbgaagreatdoor", sum := "e6ce208d493ee838d7cab819a193fe90203cbaa75b322290276d5d3a8a78d772", func := "pub-trackway/laws.FnLeafIndex", spec := "fnLeafIndex", inPlace := ["internal/abi.NoEscape", "internal/bytealg.MakeNoZero"], unfollowed := true, recurses := true, named := ["unicode/utf8.first", "unicode/utf8.acceptRanges", "unicode.CaseRanges"], apart := false, laid := [("unicode/utf8.acceptRanges", laid_unicode_utf8_acceptRanges), ("unicode.CaseRanges", laid_unicode_CaseRanges), ("unicode/utf8.first", laid_unicode_utf8_first)] }
def FnLeafIndexSaid : Prop := fnLeafIndexRow.holds Tryz.pinned (OpenSpec.ofChange fnLeafIndexSpec)

/-- ITS FALSE NEIGHBOUR: 'it returns false'. Refute it at one input. -/
def fnLeafIndexWrong : ChangeSpec := { name := "fnLeafIndex", fn := fun _ => fun
  | [d1, d2, d3] => { results := [.lit (.bool false)], args := [d1, d2, d3] }
  | _ => none }
def FnLeafIndexWrongFalsely : Prop := fnLeafIndexRow.holds Tryz.pinned (OpenSpec.ofChange fnLeafIndexWrong)

/-- 'laws.FnLogicalName': WHATEVER THE INPUT: true; the input reads as it did. -/
def fnLogicalNameSpec : ChangeSpec := { name := "fnLogicalName", fn := fun _ => fun
  | [d1, d2, d3] => { results := [.lit (.bool true)], args := [d1, d2, d3] }
  | _ => none }
def fnLogicalNameRow : OpenClaim := { program := "ytpgefkmnafpbgaagreatdoor", sum := "e6ce208d493ee838d7cab819a193fe90203cbaa75b322290276d5d3a8a78d772", func := "pub-trackway/laws.FnLogicalName", spec := "fnLogicalName", inPlace := ["internal/abi.NoEscape", "internal/bytealg.MakeNoZero"], unfollowed := true, recurses := true, named := ["unicode/utf8.first", "unicode/utf8.acceptRanges", "unicode.CaseRanges"], apart := false, laid := [("unicode/utf8.acceptRanges", laid_unicode_utf8_acceptRanges), ("unicode.CaseRanges", laid_unicode_CaseRanges), ("unicode/utf8.first", laid_unicode_utf8_first)] }
def FnLogicalNameSaid : Prop := fnLogicalNameRow.holds Tryz.pinned (OpenSpec.ofChange fnLogicalNameSpec)

/-- ITS FALSE NEIGHBOUR: 'it returns false'. Refute it at one input. -/
def fnLogicalNameWrong : ChangeSpec := { name := "fnLogicalName", fn := fun _ => fun
  | [d1, d2, d3] => { results := [.lit (.bool false)], args := [d1, d2, d3] }
  | _ => none }
def FnLogicalNameWrongFalsely : Prop := fnLogicalNameRow.holds Tryz.pinned (OpenSpec.ofChange fnLogicalNameWrong)

/-- 'laws.FnNameBegins': WHATEVER THE INPUT: true; the input reads as it did. -/
def fnNameBeginsSpec : ChangeSpec := { name := "fnNameBegins", fn := fun _ => fun
  | [d1, d2, d3] => { results := [.lit (.bool true)], args := [d1, d2, d3] }
  | _ => none }
def fnNameBeginsRow : OpenClaim := { program := "ytpgefkmnafpbgaagreatdoor", sum := "e6ce208d493ee838d7cab819a193fe90203cbaa75b322290276d5d3a8a78d772", func := "pub-trackway/laws.FnNameBegins", spec := "fnNameBegins", inPlace := ["internal/abi.NoEscape", "internal/bytealg.MakeNoZero"], unfollowed := true, recurses := true, named := ["unicode/utf8.first", "unicode/utf8.acceptRanges", "unicode.CaseRanges"], apart := false, laid := [("unicode/utf8.acceptRanges", laid_unicode_utf8_acceptRanges), ("unicode.CaseRanges", laid_unicode_CaseRanges), ("unicode/utf8.first", laid_unicode_utf8_first)] }
def FnNameBeginsSaid : Prop := fnNameBeginsRow.holds Tryz.pinned (OpenSpec.ofChange fnNameBeginsSpec)

/-- ITS FALSE NEIGHBOUR: 'it returns false'. Refute it at one input. -/
def fnNameBeginsWrong : ChangeSpec := { name := "fnNameBegins", fn := fun _ => fun
  | [d1, d2, d3] => { results := [.lit (.bool false)], args := [d1, d2, d3] }
  | _ => none }
def FnNameBeginsWrongFalsely : Prop := fnNameBeginsRow.holds Tryz.pinned (OpenSpec.ofChange fnNameBeginsWrong)

/-- 'laws.FnNameOne': WHATEVER THE INPUT: true; the input reads as it did. -/
def fnNameOneSpec : ChangeSpec := { name := "fnNameOne", fn := fun _ => fun
  | [d1, d2, d3] => { results := [.lit (.bool true)], args := [d1, d2, d3] }
  | _ => none }
def fnNameOneRow : OpenClaim := { program := "ytpgefkmnafpbgaagreatdoor", sum := "e6ce208d493ee838d7cab819a193fe90203cbaa75b322290276d5d3a8a78d772", func := "pub-trackway/laws.FnNameOne", spec := "fnNameOne", inPlace := ["internal/abi.NoEscape", "internal/bytealg.MakeNoZero"], unfollowed := true, recurses := true, named := ["unicode/utf8.first", "unicode/utf8.acceptRanges", "unicode.CaseRanges"], apart := false, laid := [("unicode/utf8.acceptRanges", laid_unicode_utf8_acceptRanges), ("unicode.CaseRanges", laid_unicode_CaseRanges), ("unicode/utf8.first", laid_unicode_utf8_first)] }
def FnNameOneSaid : Prop := fnNameOneRow.holds Tryz.pinned (OpenSpec.ofChange fnNameOneSpec)

/-- ITS FALSE NEIGHBOUR: 'it returns false'. Refute it at one input. -/
def fnNameOneWrong : ChangeSpec := { name := "fnNameOne", fn := fun _ => fun
  | [d1, d2, d3] => { results := [.lit (.bool false)], args := [d1, d2, d3] }
  | _ => none }
def FnNameOneWrongFalsely : Prop := fnNameOneRow.holds Tryz.pinned (OpenSpec.ofChange fnNameOneWrong)

/-- 'laws.FnNoWords': WHATEVER THE INPUT: true; the input reads as it did. -/
def fnNoWordsSpec : ChangeSpec := { name := "fnNoWords", fn := fun _ => fun
  | [d1, d2, d3] => { results := [.lit (.bool true)], args := [d1, d2, d3] }
  | _ => none }
def fnNoWordsRow : OpenClaim := { program := "ytpgefkmnafpbgaagreatdoor", sum := "e6ce208d493ee838d7cab819a193fe90203cbaa75b322290276d5d3a8a78d772", func := "pub-trackway/laws.FnNoWords", spec := "fnNoWords", inPlace := ["internal/abi.NoEscape", "internal/bytealg.MakeNoZero"], unfollowed := true, recurses := true, named := ["unicode/utf8.first", "unicode/utf8.acceptRanges", "unicode.CaseRanges"], apart := false, laid := [("unicode/utf8.acceptRanges", laid_unicode_utf8_acceptRanges), ("unicode.CaseRanges", laid_unicode_CaseRanges), ("unicode/utf8.first", laid_unicode_utf8_first)] }
def FnNoWordsSaid : Prop := fnNoWordsRow.holds Tryz.pinned (OpenSpec.ofChange fnNoWordsSpec)

/-- ITS FALSE NEIGHBOUR: 'it returns false'. Refute it at one input. -/
def fnNoWordsWrong : ChangeSpec := { name := "fnNoWords", fn := fun _ => fun
  | [d1, d2, d3] => { results := [.lit (.bool false)], args := [d1, d2, d3] }
  | _ => none }
def FnNoWordsWrongFalsely : Prop := fnNoWordsRow.holds Tryz.pinned (OpenSpec.ofChange fnNoWordsWrong)

/-- 'laws.FnPathSlash': WHATEVER THE INPUT: true; the input reads as it did. -/
def fnPathSlashSpec : ChangeSpec := { name := "fnPathSlash", fn := fun _ => fun
  | [d1, d2, d3] => { results := [.lit (.bool true)], args := [d1, d2, d3] }
  | _ => none }
def fnPathSlashRow : OpenClaim := { program := "ytpgefkmnafpbgaagreatdoor", sum := "e6ce208d493ee838d7cab819a193fe90203cbaa75b322290276d5d3a8a78d772", func := "pub-trackway/laws.FnPathSlash", spec := "fnPathSlash", inPlace := ["internal/abi.NoEscape", "internal/bytealg.MakeNoZero"], unfollowed := true, recurses := true, named := ["unicode/utf8.first", "unicode/utf8.acceptRanges", "unicode.CaseRanges"], apart := false, laid := [("unicode/utf8.acceptRanges", laid_unicode_utf8_acceptRanges), ("unicode.CaseRanges", laid_unicode_CaseRanges), ("unicode/utf8.first", laid_unicode_utf8_first)] }
def FnPathSlashSaid : Prop := fnPathSlashRow.holds Tryz.pinned (OpenSpec.ofChange fnPathSlashSpec)

/-- ITS FALSE NEIGHBOUR: 'it returns false'. Refute it at one input. -/
def fnPathSlashWrong : ChangeSpec := { name := "fnPathSlash", fn := fun _ => fun
  | [d1, d2, d3] => { results := [.lit (.bool false)], args := [d1, d2, d3] }
  | _ => none }
def FnPathSlashWrongFalsely : Prop := fnPathSlashRow.holds Tryz.pinned (OpenSpec.ofChange fnPathSlashWrong)

/-- 'laws.FnPlainLang': WHATEVER THE INPUT: true; the input reads as it did. -/
def fnPlainLangSpec : ChangeSpec := { name := "fnPlainLang", fn := fun _ => fun
  | [d1, d2, d3] => { results := [.lit (.bool true)], args := [d1, d2, d3] }
  | _ => none }
def fnPlainLangRow : OpenClaim := { program := "ytpgefkmnafpbgaagreatdoor", sum := "e6ce208d493ee838d7cab819a193fe90203cbaa75b322290276d5d3a8a78d772", func := "pub-trackway/laws.FnPlainLang", spec := "fnPlainLang", inPlace := ["internal/abi.NoEscape", "internal/bytealg.MakeNoZero"], unfollowed := true, recurses := true, named := ["unicode/utf8.first", "unicode/utf8.acceptRanges", "unicode.CaseRanges"], apart := false, laid := [("unicode/utf8.acceptRanges", laid_unicode_utf8_acceptRanges), ("unicode.CaseRanges", laid_unicode_CaseRanges), ("unicode/utf8.first", laid_unicode_utf8_first)] }
def FnPlainLangSaid : Prop := fnPlainLangRow.holds Tryz.pinned (OpenSpec.ofChange fnPlainLangSpec)

/-- ITS FALSE NEIGHBOUR: 'it returns false'. Refute it at one input. -/
def fnPlainLangWrong : ChangeSpec := { name := "fnPlainLang", fn := fun _ => fun
  | [d1, d2, d3] => { results := [.lit (.bool false)], args := [d1, d2, d3] }
  | _ => none }
def FnPlainLangWrongFalsely : Prop := fnPlainLangRow.holds Tryz.pinned (OpenSpec.ofChange fnPlainLangWrong)

/-- 'laws.FnWordsCount': WHATEVER THE INPUT: true; the input reads as it did. -/
def fnWordsCountSpec : ChangeSpec := { name := "fnWordsCount", fn := fun _ => fun
  | [d1, d2, d3] => { results := [.lit (.bool true)], args := [d1, d2, d3] }
  | _ => none }
def fnWordsCountRow : OpenClaim := { program := "ytpgefkmnafpbgaagreatdoor", sum := "e6ce208d493ee838d7cab819a193fe90203cbaa75b322290276d5d3a8a78d772", func := "pub-trackway/laws.FnWordsCount", spec := "fnWordsCount", inPlace := ["internal/abi.NoEscape", "internal/bytealg.MakeNoZero"], unfollowed := true, recurses := true, named := ["unicode/utf8.first", "unicode/utf8.acceptRanges", "unicode.CaseRanges"], apart := false, laid := [("unicode/utf8.acceptRanges", laid_unicode_utf8_acceptRanges), ("unicode.CaseRanges", laid_unicode_CaseRanges), ("unicode/utf8.first", laid_unicode_utf8_first)] }
def FnWordsCountSaid : Prop := fnWordsCountRow.holds Tryz.pinned (OpenSpec.ofChange fnWordsCountSpec)

/-- ITS FALSE NEIGHBOUR: 'it returns false'. Refute it at one input. -/
def fnWordsCountWrong : ChangeSpec := { name := "fnWordsCount", fn := fun _ => fun
  | [d1, d2, d3] => { results := [.lit (.bool false)], args := [d1, d2, d3] }
  | _ => none }
def FnWordsCountWrongFalsely : Prop := fnWordsCountRow.holds Tryz.pinned (OpenSpec.ofChange fnWordsCountWrong)

/- THE SECOND FORM. 'bulk': how many values and letters a reading holds, each counted each time it is reached (what is shared counts as often as it is met; a slice's spare places count too). A statement '..UptoSaid' is the law's where the arguments, and the package variables that the reading takes, are together of bulk at most 1048576: NARROWER than '..Said'. Prove '..Said' where nothing that the law and all that it calls make is longer than what came in: it says more and counts as full. Else prove '..UptoSaid'. A law counts once. -/
mutual
def uptoBulk {H : Type} : DataW H → Nat
  | .lit (.string bytes) => bytes.length + 1
  | .lit _ => 1
  | .nil => 1
  | .ptr d => uptoBulk d + 1
  | .slice elems spare => uptoBulkAll elems + uptoBulkAll spare + 1
  | .agg parts => uptoBulkAll parts + 1
  | .iface _ d => uptoBulk d + 1
  | .map entries => uptoBulkEntries entries + 1
  | .held _ => 1
def uptoBulkAll {H : Type} : List (DataW H) → Nat
  | [] => 0
  | d :: r => uptoBulk d + uptoBulkAll r
def uptoBulkEntries {H : Type} : List (Lit × DataW H) → Nat
  | [] => 0
  | x :: r => uptoBulkEntry x + uptoBulkEntries r
def uptoBulkEntry {H : Type} : Lit × DataW H → Nat
  | (.string bytes, d) => bytes.length + uptoBulk d + 1
  | (_, d) => uptoBulk d + 1
 end
def uptoSmall : (H : Type) → List (DataW H) → Bool := fun _ ds => decide (uptoBulkAll ds ≤ 1048576)
def OpenSpec.upto (s : _root_.Go.ChangeSpec) : _root_.Go.OpenSpec := { _root_.Go.OpenSpec.ofChange s with cond := some uptoSmall }

/-- 'laws.FnExt', WHERE WHAT IT READS IS OF BULK AT MOST 1048576: true; the input reads as it did. -/
def fnExtUptoRow : OpenClaim := { program := "ytpgefkmnafpbgaagreatdoor", sum := "e6ce208d493ee838d7cab819a193fe90203cbaa75b322290276d5d3a8a78d772", func := "pub-trackway/laws.FnExt", spec := "fnExt", inPlace := ["internal/abi.NoEscape", "internal/bytealg.MakeNoZero"], unfollowed := true, recurses := true, named := ["unicode/utf8.first", "unicode/utf8.acceptRanges", "unicode.CaseRanges"], apart := false, laid := [("unicode/utf8.acceptRanges", laid_unicode_utf8_acceptRanges), ("unicode.CaseRanges", laid_unicode_CaseRanges), ("unicode/utf8.first", laid_unicode_utf8_first)], narrowed := true }
def FnExtUptoSaid : Prop := fnExtUptoRow.holds Tryz.pinned (OpenSpec.upto fnExtSpec)

/-- 'laws.FnFormatListed', WHERE WHAT IT READS IS OF BULK AT MOST 1048576: true; the input reads as it did. -/
def fnFormatListedUptoRow : OpenClaim := { program := "ytpgefkmnafpbgaagreatdoor", sum := "e6ce208d493ee838d7cab819a193fe90203cbaa75b322290276d5d3a8a78d772", func := "pub-trackway/laws.FnFormatListed", spec := "fnFormatListed", inPlace := ["internal/abi.NoEscape", "internal/bytealg.MakeNoZero"], unfollowed := true, recurses := true, named := ["unicode/utf8.first", "unicode/utf8.acceptRanges", "unicode.CaseRanges"], apart := false, laid := [("unicode/utf8.acceptRanges", laid_unicode_utf8_acceptRanges), ("unicode.CaseRanges", laid_unicode_CaseRanges), ("unicode/utf8.first", laid_unicode_utf8_first)], narrowed := true }
def FnFormatListedUptoSaid : Prop := fnFormatListedUptoRow.holds Tryz.pinned (OpenSpec.upto fnFormatListedSpec)

/-- 'laws.FnKnownBy', WHERE WHAT IT READS IS OF BULK AT MOST 1048576: true; the input reads as it did. -/
def fnKnownByUptoRow : OpenClaim := { program := "ytpgefkmnafpbgaagreatdoor", sum := "e6ce208d493ee838d7cab819a193fe90203cbaa75b322290276d5d3a8a78d772", func := "pub-trackway/laws.FnKnownBy", spec := "fnKnownBy", inPlace := ["internal/abi.NoEscape", "internal/bytealg.MakeNoZero"], unfollowed := true, recurses := true, named := ["unicode/utf8.first", "unicode/utf8.acceptRanges", "unicode.CaseRanges"], apart := false, laid := [("unicode/utf8.acceptRanges", laid_unicode_utf8_acceptRanges), ("unicode.CaseRanges", laid_unicode_CaseRanges), ("unicode/utf8.first", laid_unicode_utf8_first)], narrowed := true }
def FnKnownByUptoSaid : Prop := fnKnownByUptoRow.holds Tryz.pinned (OpenSpec.upto fnKnownBySpec)

/-- 'laws.FnLangsListed', WHERE WHAT IT READS IS OF BULK AT MOST 1048576: true; the input reads as it did. -/
def fnLangsListedUptoRow : OpenClaim := { program := "ytpgefkmnafpbgaagreatdoor", sum := "e6ce208d493ee838d7cab819a193fe90203cbaa75b322290276d5d3a8a78d772", func := "pub-trackway/laws.FnLangsListed", spec := "fnLangsListed", inPlace := ["internal/abi.NoEscape", "internal/bytealg.MakeNoZero"], unfollowed := true, recurses := true, named := ["unicode/utf8.first", "unicode/utf8.acceptRanges", "unicode.CaseRanges"], apart := false, laid := [("unicode/utf8.acceptRanges", laid_unicode_utf8_acceptRanges), ("unicode.CaseRanges", laid_unicode_CaseRanges), ("unicode/utf8.first", laid_unicode_utf8_first)], narrowed := true }
def FnLangsListedUptoSaid : Prop := fnLangsListedUptoRow.holds Tryz.pinned (OpenSpec.upto fnLangsListedSpec)

/-- 'laws.FnLeafIndex', WHERE WHAT IT READS IS OF BULK AT MOST 1048576: true; the input reads as it did. -/
def fnLeafIndexUptoRow : OpenClaim := { program := "ytpgefkmnafpbgaagreatdoor", sum := "e6ce208d493ee838d7cab819a193fe90203cbaa75b322290276d5d3a8a78d772", func := "pub-trackway/laws.FnLeafIndex", spec := "fnLeafIndex", inPlace := ["internal/abi.NoEscape", "internal/bytealg.MakeNoZero"], unfollowed := true, recurses := true, named := ["unicode/utf8.first", "unicode/utf8.acceptRanges", "unicode.CaseRanges"], apart := false, laid := [("unicode/utf8.acceptRanges", laid_unicode_utf8_acceptRanges), ("unicode.CaseRanges", laid_unicode_CaseRanges), ("unicode/utf8.first", laid_unicode_utf8_first)], narrowed := true }
def FnLeafIndexUptoSaid : Prop := fnLeafIndexUptoRow.holds Tryz.pinned (OpenSpec.upto fnLeafIndexSpec)

/-- 'laws.FnLogicalName', WHERE WHAT IT READS IS OF BULK AT MOST 1048576: true; the input reads as it did. -/
def fnLogicalNameUptoRow : OpenClaim := { program := "ytpgefkmnafpbgaagreatdoor", sum := "e6ce208d493ee838d7cab819a193fe90203cbaa75b322290276d5d3a8a78d772", func := "pub-trackway/laws.FnLogicalName", spec := "fnLogicalName", inPlace := ["internal/abi.NoEscape", "internal/bytealg.MakeNoZero"], unfollowed := true, recurses := true, named := ["unicode/utf8.first", "unicode/utf8.acceptRanges", "unicode.CaseRanges"], apart := false, laid := [("unicode/utf8.acceptRanges", laid_unicode_utf8_acceptRanges), ("unicode.CaseRanges", laid_unicode_CaseRanges), ("unicode/utf8.first", laid_unicode_utf8_first)], narrowed := true }
def FnLogicalNameUptoSaid : Prop := fnLogicalNameUptoRow.holds Tryz.pinned (OpenSpec.upto fnLogicalNameSpec)

/-- 'laws.FnNameBegins', WHERE WHAT IT READS IS OF BULK AT MOST 1048576: true; the input reads as it did. -/
def fnNameBeginsUptoRow : OpenClaim := { program := "ytpgefkmnafpbgaagreatdoor", sum := "e6ce208d493ee838d7cab819a193fe90203cbaa75b322290276d5d3a8a78d772", func := "pub-trackway/laws.FnNameBegins", spec := "fnNameBegins", inPlace := ["internal/abi.NoEscape", "internal/bytealg.MakeNoZero"], unfollowed := true, recurses := true, named := ["unicode/utf8.first", "unicode/utf8.acceptRanges", "unicode.CaseRanges"], apart := false, laid := [("unicode/utf8.acceptRanges", laid_unicode_utf8_acceptRanges), ("unicode.CaseRanges", laid_unicode_CaseRanges), ("unicode/utf8.first", laid_unicode_utf8_first)], narrowed := true }
def FnNameBeginsUptoSaid : Prop := fnNameBeginsUptoRow.holds Tryz.pinned (OpenSpec.upto fnNameBeginsSpec)

/-- 'laws.FnNameOne', WHERE WHAT IT READS IS OF BULK AT MOST 1048576: true; the input reads as it did. -/
def fnNameOneUptoRow : OpenClaim := { program := "ytpgefkmnafpbgaagreatdoor", sum := "e6ce208d493ee838d7cab819a193fe90203cbaa75b322290276d5d3a8a78d772", func := "pub-trackway/laws.FnNameOne", spec := "fnNameOne", inPlace := ["internal/abi.NoEscape", "internal/bytealg.MakeNoZero"], unfollowed := true, recurses := true, named := ["unicode/utf8.first", "unicode/utf8.acceptRanges", "unicode.CaseRanges"], apart := false, laid := [("unicode/utf8.acceptRanges", laid_unicode_utf8_acceptRanges), ("unicode.CaseRanges", laid_unicode_CaseRanges), ("unicode/utf8.first", laid_unicode_utf8_first)], narrowed := true }
def FnNameOneUptoSaid : Prop := fnNameOneUptoRow.holds Tryz.pinned (OpenSpec.upto fnNameOneSpec)

/-- 'laws.FnNoWords', WHERE WHAT IT READS IS OF BULK AT MOST 1048576: true; the input reads as it did. -/
def fnNoWordsUptoRow : OpenClaim := { program := "ytpgefkmnafpbgaagreatdoor", sum := "e6ce208d493ee838d7cab819a193fe90203cbaa75b322290276d5d3a8a78d772", func := "pub-trackway/laws.FnNoWords", spec := "fnNoWords", inPlace := ["internal/abi.NoEscape", "internal/bytealg.MakeNoZero"], unfollowed := true, recurses := true, named := ["unicode/utf8.first", "unicode/utf8.acceptRanges", "unicode.CaseRanges"], apart := false, laid := [("unicode/utf8.acceptRanges", laid_unicode_utf8_acceptRanges), ("unicode.CaseRanges", laid_unicode_CaseRanges), ("unicode/utf8.first", laid_unicode_utf8_first)], narrowed := true }
def FnNoWordsUptoSaid : Prop := fnNoWordsUptoRow.holds Tryz.pinned (OpenSpec.upto fnNoWordsSpec)

/-- 'laws.FnPathSlash', WHERE WHAT IT READS IS OF BULK AT MOST 1048576: true; the input reads as it did. -/
def fnPathSlashUptoRow : OpenClaim := { program := "ytpgefkmnafpbgaagreatdoor", sum := "e6ce208d493ee838d7cab819a193fe90203cbaa75b322290276d5d3a8a78d772", func := "pub-trackway/laws.FnPathSlash", spec := "fnPathSlash", inPlace := ["internal/abi.NoEscape", "internal/bytealg.MakeNoZero"], unfollowed := true, recurses := true, named := ["unicode/utf8.first", "unicode/utf8.acceptRanges", "unicode.CaseRanges"], apart := false, laid := [("unicode/utf8.acceptRanges", laid_unicode_utf8_acceptRanges), ("unicode.CaseRanges", laid_unicode_CaseRanges), ("unicode/utf8.first", laid_unicode_utf8_first)], narrowed := true }
def FnPathSlashUptoSaid : Prop := fnPathSlashUptoRow.holds Tryz.pinned (OpenSpec.upto fnPathSlashSpec)

/-- 'laws.FnPlainLang', WHERE WHAT IT READS IS OF BULK AT MOST 1048576: true; the input reads as it did. -/
def fnPlainLangUptoRow : OpenClaim := { program := "ytpgefkmnafpbgaagreatdoor", sum := "e6ce208d493ee838d7cab819a193fe90203cbaa75b322290276d5d3a8a78d772", func := "pub-trackway/laws.FnPlainLang", spec := "fnPlainLang", inPlace := ["internal/abi.NoEscape", "internal/bytealg.MakeNoZero"], unfollowed := true, recurses := true, named := ["unicode/utf8.first", "unicode/utf8.acceptRanges", "unicode.CaseRanges"], apart := false, laid := [("unicode/utf8.acceptRanges", laid_unicode_utf8_acceptRanges), ("unicode.CaseRanges", laid_unicode_CaseRanges), ("unicode/utf8.first", laid_unicode_utf8_first)], narrowed := true }
def FnPlainLangUptoSaid : Prop := fnPlainLangUptoRow.holds Tryz.pinned (OpenSpec.upto fnPlainLangSpec)

/-- 'laws.FnWordsCount', WHERE WHAT IT READS IS OF BULK AT MOST 1048576: true; the input reads as it did. -/
def fnWordsCountUptoRow : OpenClaim := { program := "ytpgefkmnafpbgaagreatdoor", sum := "e6ce208d493ee838d7cab819a193fe90203cbaa75b322290276d5d3a8a78d772", func := "pub-trackway/laws.FnWordsCount", spec := "fnWordsCount", inPlace := ["internal/abi.NoEscape", "internal/bytealg.MakeNoZero"], unfollowed := true, recurses := true, named := ["unicode/utf8.first", "unicode/utf8.acceptRanges", "unicode.CaseRanges"], apart := false, laid := [("unicode/utf8.acceptRanges", laid_unicode_utf8_acceptRanges), ("unicode.CaseRanges", laid_unicode_CaseRanges), ("unicode/utf8.first", laid_unicode_utf8_first)], narrowed := true }
def FnWordsCountUptoSaid : Prop := fnWordsCountUptoRow.holds Tryz.pinned (OpenSpec.upto fnWordsCountSpec)

end Rows
end Go.Proofs.YtpgefkmnafpbgaaGreatDoor
