/-
  NARROWER THAN 'FOR EVERY INPUT', by the rows' own cells (each row's printed sentence says how): FnParsedTwice: laid · FnSlashBehind: laid · FnTrimmedSlash: laid · FnForTypeTold: laid.
  DERIVED. THE GIVEN ROWS OF THIS SEAT. 4 by the template 'for every input the law returns true; each argument reads behind the call as it read before'; 0 by the template 'total and deterministic' (their statements: YtbnmgneaofhdiaaGreatDoorTotals.lean).
  GIVEN WITH THE SEED: the statements are not yours to turn. If you find one false, say at which input.
  Laid BY PROGRAM, IN A SANDBOX (cutbox-rows.mjs): the forced cells as the released guide's own fill.sh prints them over the translation 1c2774dff5e12d60… (all of the seat's roots in one cut). By AI agents, Wed Nov 11 2026. No macro, syntax, notation, axiom, sorry.
-/
import Derived.Test.YtbnmgneaofhdiaaGreatDoorChecked
import GoSem.PinnedTables
import GoSem.Claim
import GoSem.ClaimJoined
import GoSem.ClaimMapViews
import Derived.JoinedTies
import Derived.KernelRfl
namespace Go.Proofs.YtbnmgneaofhdiaaGreatDoor
/- THE CELL 'sum', in the pinned program and in every row, IS THE sha256 OF THE DUMP (.gsa) THAT YtbnmgneaofhdiaaGreatDoorProg.lean LOADS. Nothing in Lean hashes anything: it is a label: what it is worth is what the hold of that sum in a sandbox is worth. -/
noncomputable def Tryz.pinned : Pinned := { name := "ytbnmgneaofhdiaagreatdoor", sum := "1c2774dff5e12d60fa1f901f09739be805fd56f49986d3c9bc01cbdadbd8e49b", checked := Tryz.checked }
namespace Rows
def none {H : Type} : Left H := { results := [], args := [] }

/- WHAT THE LISTED PACKAGE-LEVEL VARIABLES READ AS WHEN THE CALL BEGINS. Each datum BY PROGRAM (the guide's laid-datum.mjs) off the statement by which the dump's own 'gosem.cut.vars' lays the variable. In a bare row this is a premise. The card (YtbnmgneaofhdiaaGreatDoorCards.lean) ties it to the program's text. -/
def laid_unicode_utf8_acceptRanges {H : Type} : DataW H := .agg [.agg [.lit (.int .u8 128), .lit (.int .u8 191)], .agg [.lit (.int .u8 160), .lit (.int .u8 191)], .agg [.lit (.int .u8 128), .lit (.int .u8 159)], .agg [.lit (.int .u8 144), .lit (.int .u8 191)], .agg [.lit (.int .u8 128), .lit (.int .u8 143)], .agg [.lit (.int .u8 0), .lit (.int .u8 0)], .agg [.lit (.int .u8 0), .lit (.int .u8 0)], .agg [.lit (.int .u8 0), .lit (.int .u8 0)], .agg [.lit (.int .u8 0), .lit (.int .u8 0)], .agg [.lit (.int .u8 0), .lit (.int .u8 0)], .agg [.lit (.int .u8 0), .lit (.int .u8 0)], .agg [.lit (.int .u8 0), .lit (.int .u8 0)], .agg [.lit (.int .u8 0), .lit (.int .u8 0)], .agg [.lit (.int .u8 0), .lit (.int .u8 0)], .agg [.lit (.int .u8 0), .lit (.int .u8 0)], .agg [.lit (.int .u8 0), .lit (.int .u8 0)]]
/-- One of Go's own tables, pinned by name: the form's constant. -/
def laid_unicode_CaseRanges : DataW Unit := Go.Pinned.caseRanges
/-- One of Go's own tables, pinned by name: the form's constant. -/
def laid_unicode_utf8_first : DataW Unit := Go.Pinned.utf8First

/-- 'laws.FnParsedTwice': WHATEVER THE INPUT: true; the input reads as it did. -/
def fnParsedTwiceSpec : ChangeSpec := { name := "fnParsedTwice", fn := fun _ => fun
  | [d1, d2, d3] => { results := [.lit (.bool true)], args := [d1, d2, d3] }
  | _ => none }
def fnParsedTwiceRow : OpenClaim := { program := "ytbnmgneaofhdiaagreatdoor", sum := "1c2774dff5e12d60fa1f901f09739be805fd56f49986d3c9bc01cbdadbd8e49b", func := "pub-trackway/laws.FnParsedTwice", spec := "fnParsedTwice", inPlace := ["internal/abi.NoEscape", "internal/bytealg.MakeNoZero"], unfollowed := true, recurses := true, named := ["unicode/utf8.first", "unicode/utf8.acceptRanges", "unicode.CaseRanges"], apart := false, laid := [("unicode/utf8.acceptRanges", laid_unicode_utf8_acceptRanges), ("unicode.CaseRanges", laid_unicode_CaseRanges), ("unicode/utf8.first", laid_unicode_utf8_first)] }
def FnParsedTwiceSaid : Prop := fnParsedTwiceRow.holds Tryz.pinned (OpenSpec.ofChange fnParsedTwiceSpec)

/-- ITS FALSE NEIGHBOUR: 'it returns false'. Refute it at one input. -/
def fnParsedTwiceWrong : ChangeSpec := { name := "fnParsedTwice", fn := fun _ => fun
  | [d1, d2, d3] => { results := [.lit (.bool false)], args := [d1, d2, d3] }
  | _ => none }
def FnParsedTwiceWrongFalsely : Prop := fnParsedTwiceRow.holds Tryz.pinned (OpenSpec.ofChange fnParsedTwiceWrong)

/-- 'laws.FnSlashBehind': WHATEVER THE INPUT: true; the input reads as it did. -/
def fnSlashBehindSpec : ChangeSpec := { name := "fnSlashBehind", fn := fun _ => fun
  | [d1, d2, d3] => { results := [.lit (.bool true)], args := [d1, d2, d3] }
  | _ => none }
def fnSlashBehindRow : OpenClaim := { program := "ytbnmgneaofhdiaagreatdoor", sum := "1c2774dff5e12d60fa1f901f09739be805fd56f49986d3c9bc01cbdadbd8e49b", func := "pub-trackway/laws.FnSlashBehind", spec := "fnSlashBehind", inPlace := ["internal/abi.NoEscape", "internal/bytealg.MakeNoZero"], unfollowed := true, recurses := true, named := ["unicode/utf8.first", "unicode/utf8.acceptRanges", "unicode.CaseRanges"], apart := false, laid := [("unicode/utf8.acceptRanges", laid_unicode_utf8_acceptRanges), ("unicode.CaseRanges", laid_unicode_CaseRanges), ("unicode/utf8.first", laid_unicode_utf8_first)] }
def FnSlashBehindSaid : Prop := fnSlashBehindRow.holds Tryz.pinned (OpenSpec.ofChange fnSlashBehindSpec)

/-- ITS FALSE NEIGHBOUR: 'it returns false'. Refute it at one input. -/
def fnSlashBehindWrong : ChangeSpec := { name := "fnSlashBehind", fn := fun _ => fun
  | [d1, d2, d3] => { results := [.lit (.bool false)], args := [d1, d2, d3] }
  | _ => none }
def FnSlashBehindWrongFalsely : Prop := fnSlashBehindRow.holds Tryz.pinned (OpenSpec.ofChange fnSlashBehindWrong)

/-- 'laws.FnTrimmedSlash': WHATEVER THE INPUT: true; the input reads as it did. -/
def fnTrimmedSlashSpec : ChangeSpec := { name := "fnTrimmedSlash", fn := fun _ => fun
  | [d1, d2, d3] => { results := [.lit (.bool true)], args := [d1, d2, d3] }
  | _ => none }
def fnTrimmedSlashRow : OpenClaim := { program := "ytbnmgneaofhdiaagreatdoor", sum := "1c2774dff5e12d60fa1f901f09739be805fd56f49986d3c9bc01cbdadbd8e49b", func := "pub-trackway/laws.FnTrimmedSlash", spec := "fnTrimmedSlash", inPlace := ["internal/abi.NoEscape", "internal/bytealg.MakeNoZero"], unfollowed := true, recurses := true, named := ["unicode/utf8.first", "unicode/utf8.acceptRanges", "unicode.CaseRanges"], apart := false, laid := [("unicode/utf8.acceptRanges", laid_unicode_utf8_acceptRanges), ("unicode.CaseRanges", laid_unicode_CaseRanges), ("unicode/utf8.first", laid_unicode_utf8_first)] }
def FnTrimmedSlashSaid : Prop := fnTrimmedSlashRow.holds Tryz.pinned (OpenSpec.ofChange fnTrimmedSlashSpec)

/-- ITS FALSE NEIGHBOUR: 'it returns false'. Refute it at one input. -/
def fnTrimmedSlashWrong : ChangeSpec := { name := "fnTrimmedSlash", fn := fun _ => fun
  | [d1, d2, d3] => { results := [.lit (.bool false)], args := [d1, d2, d3] }
  | _ => none }
def FnTrimmedSlashWrongFalsely : Prop := fnTrimmedSlashRow.holds Tryz.pinned (OpenSpec.ofChange fnTrimmedSlashWrong)

/-- 'laws.FnForTypeTold': WHATEVER THE INPUT: true; the input reads as it did. -/
def fnForTypeToldSpec : ChangeSpec := { name := "fnForTypeTold", fn := fun _ => fun
  | [d1, d2, d3, d4] => { results := [.lit (.bool true)], args := [d1, d2, d3, d4] }
  | _ => none }
def fnForTypeToldRow : OpenClaim := { program := "ytbnmgneaofhdiaagreatdoor", sum := "1c2774dff5e12d60fa1f901f09739be805fd56f49986d3c9bc01cbdadbd8e49b", func := "pub-trackway/laws.FnForTypeTold", spec := "fnForTypeTold", inPlace := ["internal/abi.NoEscape", "internal/bytealg.MakeNoZero"], unfollowed := true, recurses := true, named := ["unicode/utf8.first", "unicode/utf8.acceptRanges", "unicode.CaseRanges"], apart := false, laid := [("unicode/utf8.acceptRanges", laid_unicode_utf8_acceptRanges), ("unicode.CaseRanges", laid_unicode_CaseRanges), ("unicode/utf8.first", laid_unicode_utf8_first)] }
def FnForTypeToldSaid : Prop := fnForTypeToldRow.holds Tryz.pinned (OpenSpec.ofChange fnForTypeToldSpec)

/-- ITS FALSE NEIGHBOUR: 'it returns false'. Refute it at one input. -/
def fnForTypeToldWrong : ChangeSpec := { name := "fnForTypeTold", fn := fun _ => fun
  | [d1, d2, d3, d4] => { results := [.lit (.bool false)], args := [d1, d2, d3, d4] }
  | _ => none }
def FnForTypeToldWrongFalsely : Prop := fnForTypeToldRow.holds Tryz.pinned (OpenSpec.ofChange fnForTypeToldWrong)

/- THE SECOND FORM. 'bulk': how many values and letters a reading holds, each counted each time it is reached (what is shared counts as often as it is met; a slice's spare places count too). A statement '..UptoSaid' is the law's where the arguments, and the package variables that the reading takes, are together of bulk at most 1048576: NARROWER than '..Said'. Prove '..Said' where nothing that the law and all that it calls make is longer than what came in: it says more and counts as full. Else prove '..UptoSaid'. A law counts once. -/
mutual
def uptoBulk {H : Type} : DataW H → Nat
  | .lit (.string bytes) => bytes.length + 1
  | .lit _ => 1
  | .nil => 1
  | .ptr d => uptoBulk d + 1
  | .slice elems spare => uptoBulkAll elems + uptoBulkAll spare + 1
  | .agg parts => uptoBulkAll parts + 1
  | .iface _ d => uptoBulk d + 1
  | .map entries => uptoBulkEntries entries + 1
  | .held _ => 1
def uptoBulkAll {H : Type} : List (DataW H) → Nat
  | [] => 0
  | d :: r => uptoBulk d + uptoBulkAll r
def uptoBulkEntries {H : Type} : List (Lit × DataW H) → Nat
  | [] => 0
  | x :: r => uptoBulkEntry x + uptoBulkEntries r
def uptoBulkEntry {H : Type} : Lit × DataW H → Nat
  | (.string bytes, d) => bytes.length + uptoBulk d + 1
  | (_, d) => uptoBulk d + 1
 end
def uptoSmall : (H : Type) → List (DataW H) → Bool := fun _ ds => decide (uptoBulkAll ds ≤ 1048576)
def OpenSpec.upto (s : _root_.Go.ChangeSpec) : _root_.Go.OpenSpec := { _root_.Go.OpenSpec.ofChange s with cond := some uptoSmall }

/-- 'laws.FnParsedTwice', WHERE WHAT IT READS IS OF BULK AT MOST 1048576: true; the input reads as it did. -/
def fnParsedTwiceUptoRow : OpenClaim := { program := "ytbnmgneaofhdiaagreatdoor", sum := "1c2774dff5e12d60fa1f901f09739be805fd56f49986d3c9bc01cbdadbd8e49b", func := "pub-trackway/laws.FnParsedTwice", spec := "fnParsedTwice", inPlace := ["internal/abi.NoEscape", "internal/bytealg.MakeNoZero"], unfollowed := true, recurses := true, named := ["unicode/utf8.first", "unicode/utf8.acceptRanges", "unicode.CaseRanges"], apart := false, laid := [("unicode/utf8.acceptRanges", laid_unicode_utf8_acceptRanges), ("unicode.CaseRanges", laid_unicode_CaseRanges), ("unicode/utf8.first", laid_unicode_utf8_first)], narrowed := true }
def FnParsedTwiceUptoSaid : Prop := fnParsedTwiceUptoRow.holds Tryz.pinned (OpenSpec.upto fnParsedTwiceSpec)

/-- 'laws.FnSlashBehind', WHERE WHAT IT READS IS OF BULK AT MOST 1048576: true; the input reads as it did. -/
def fnSlashBehindUptoRow : OpenClaim := { program := "ytbnmgneaofhdiaagreatdoor", sum := "1c2774dff5e12d60fa1f901f09739be805fd56f49986d3c9bc01cbdadbd8e49b", func := "pub-trackway/laws.FnSlashBehind", spec := "fnSlashBehind", inPlace := ["internal/abi.NoEscape", "internal/bytealg.MakeNoZero"], unfollowed := true, recurses := true, named := ["unicode/utf8.first", "unicode/utf8.acceptRanges", "unicode.CaseRanges"], apart := false, laid := [("unicode/utf8.acceptRanges", laid_unicode_utf8_acceptRanges), ("unicode.CaseRanges", laid_unicode_CaseRanges), ("unicode/utf8.first", laid_unicode_utf8_first)], narrowed := true }
def FnSlashBehindUptoSaid : Prop := fnSlashBehindUptoRow.holds Tryz.pinned (OpenSpec.upto fnSlashBehindSpec)

/-- 'laws.FnTrimmedSlash', WHERE WHAT IT READS IS OF BULK AT MOST 1048576: true; the input reads as it did. -/
def fnTrimmedSlashUptoRow : OpenClaim := { program := "ytbnmgneaofhdiaagreatdoor", sum := "1c2774dff5e12d60fa1f901f09739be805fd56f49986d3c9bc01cbdadbd8e49b", func := "pub-trackway/laws.FnTrimmedSlash", spec := "fnTrimmedSlash", inPlace := ["internal/abi.NoEscape", "internal/bytealg.MakeNoZero"], unfollowed := true, recurses := true, named := ["unicode/utf8.first", "unicode/utf8.acceptRanges", "unicode.CaseRanges"], apart := false, laid := [("unicode/utf8.acceptRanges", laid_unicode_utf8_acceptRanges), ("unicode.CaseRanges", laid_unicode_CaseRanges), ("unicode/utf8.first", laid_unicode_utf8_first)], narrowed := true }
def FnTrimmedSlashUptoSaid : Prop := fnTrimmedSlashUptoRow.holds Tryz.pinned (OpenSpec.upto fnTrimmedSlashSpec)

/-- 'laws.FnForTypeTold', WHERE WHAT IT READS IS OF BULK AT MOST 1048576: true; the input reads as it did. -/
def fnForTypeToldUptoRow : OpenClaim := { program := "ytbnmgneaofhdiaagreatdoor", sum := "1c2774dff5e12d60fa1f901f09739be805fd56f49986d3c9bc01cbdadbd8e49b", func := "pub-trackway/laws.FnForTypeTold", spec := "fnForTypeTold", inPlace := ["internal/abi.NoEscape", "internal/bytealg.MakeNoZero"], unfollowed := true, recurses := true, named := ["unicode/utf8.first", "unicode/utf8.acceptRanges", "unicode.CaseRanges"], apart := false, laid := [("unicode/utf8.acceptRanges", laid_unicode_utf8_acceptRanges), ("unicode.CaseRanges", laid_unicode_CaseRanges), ("unicode/utf8.first", laid_unicode_utf8_first)], narrowed := true }
def FnForTypeToldUptoSaid : Prop := fnForTypeToldUptoRow.holds Tryz.pinned (OpenSpec.upto fnForTypeToldSpec)

end Rows
end Go.Proofs.YtbnmgneaofhdiaaGreatDoor
