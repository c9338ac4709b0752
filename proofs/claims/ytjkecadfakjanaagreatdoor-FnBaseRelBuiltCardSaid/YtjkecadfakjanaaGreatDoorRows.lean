/-
  NARROWER THAN 'FOR EVERY INPUT', by the rows' own cells (each row's printed sentence says how): FnTrimmedWords: laid · FnBuiltResource: laid · FnBaseReTypedBuilt: laid · FnBaseRelBuilt: laid · FnBuiltCustom: laid · FnBuiltData: laid · FnBuiltLayout: laid · FnBuiltPage: laid · FnBuiltSorts: laid.
  DERIVED. THE GIVEN ROWS OF THIS SEAT. 9 by the template 'for every input the law returns true; each argument reads behind the call as it read before'; 0 by the template 'total and deterministic' (their statements: YtjkecadfakjanaaGreatDoorTotals.lean).
  GIVEN WITH THE SEED: the statements are not yours to turn. If you find one false, say at which input.
  Laid BY PROGRAM, IN A SANDBOX (cutbox-rows.mjs): the forced cells as the released guide's own fill.sh prints them over the translation e5eaa16e68ac3fc3… (all of the seat's roots in one cut). By AI agents, Wed Nov 11 2026. No macro, syntax, notation, axiom, sorry.
-/
import Derived.Test.YtjkecadfakjanaaGreatDoorChecked
import GoSem.PinnedTables
import GoSem.Claim
import GoSem.ClaimJoined
import GoSem.ClaimMapViews
import Derived.JoinedTies
import Derived.KernelRfl
namespace Go.Proofs.YtjkecadfakjanaaGreatDoor
/- THE CELL 'sum', in the pinned program and in every row, IS THE sha256 OF THE DUMP (.gsa) THAT YtjkecadfakjanaaGreatDoorProg.lean LOADS. Nothing in Lean hashes anything: it is a label: what it is worth is what the hold of that sum in a sandbox is worth. -/
noncomputable def Tryz.pinned : Pinned := { name := "ytjkecadfakjanaagreatdoor", sum := "e5eaa16e68ac3fc36d133172aca37e2e7f33abcef5b217e8c0825834f5559ef4", checked := Tryz.checked }
namespace Rows
def none {H : Type} : Left H := { results := [], args := [] }

/- WHAT THE LISTED PACKAGE-LEVEL VARIABLES READ AS WHEN THE CALL BEGINS. Each datum BY PROGRAM (the guide's laid-datum.mjs) off the statement by which the dump's own 'gosem.cut.vars' lays the variable. In a bare row this is a premise. The card (YtjkecadfakjanaaGreatDoorCards.lean) ties it to the program's text. -/
def laid_unicode_utf8_acceptRanges {H : Type} : DataW H := .agg [.agg [.lit (.int .u8 128), .lit (.int .u8 191)], .agg [.lit (.int .u8 160), .lit (.int .u8 191)], .agg [.lit (.int .u8 128), .lit (.int .u8 159)], .agg [.lit (.int .u8 144), .lit (.int .u8 191)], .agg [.lit (.int .u8 128), .lit (.int .u8 143)], .agg [.lit (.int .u8 0), .lit (.int .u8 0)], .agg [.lit (.int .u8 0), .lit (.int .u8 0)], .agg [.lit (.int .u8 0), .lit (.int .u8 0)], .agg [.lit (.int .u8 0), .lit (.int .u8 0)], .agg [.lit (.int .u8 0), .lit (.int .u8 0)], .agg [.lit (.int .u8 0), .lit (.int .u8 0)], .agg [.lit (.int .u8 0), .lit (.int .u8 0)], .agg [.lit (.int .u8 0), .lit (.int .u8 0)], .agg [.lit (.int .u8 0), .lit (.int .u8 0)], .agg [.lit (.int .u8 0), .lit (.int .u8 0)], .agg [.lit (.int .u8 0), .lit (.int .u8 0)]]
/-- One of Go's own tables, pinned by name: the form's constant. -/
def laid_unicode_CaseRanges : DataW Unit := Go.Pinned.caseRanges
/-- One of Go's own tables, pinned by name: the form's constant. -/
def laid_unicode_utf8_first : DataW Unit := Go.Pinned.utf8First

/-- 'laws.FnTrimmedWords': WHATEVER THE INPUT: true; the input reads as it did. -/
def fnTrimmedWordsSpec : ChangeSpec := { name := "fnTrimmedWords", fn := fun _ => fun
  | [d1, d2, d3] => { results := [.lit (.bool true)], args := [d1, d2, d3] }
  | _ => none }
def fnTrimmedWordsRow : OpenClaim := { program := "ytjkecadfakjanaagreatdoor", sum := "e5eaa16e68ac3fc36d133172aca37e2e7f33abcef5b217e8c0825834f5559ef4", func := "pub-trackway/laws.FnTrimmedWords", spec := "fnTrimmedWords", inPlace := ["internal/abi.NoEscape", "internal/bytealg.MakeNoZero"], unfollowed := true, recurses := true, named := ["unicode/utf8.first", "unicode/utf8.acceptRanges", "unicode.CaseRanges"], apart := false, laid := [("unicode/utf8.acceptRanges", laid_unicode_utf8_acceptRanges), ("unicode.CaseRanges", laid_unicode_CaseRanges), ("unicode/utf8.first", laid_unicode_utf8_first)] }
def FnTrimmedWordsSaid : Prop := fnTrimmedWordsRow.holds Tryz.pinned (OpenSpec.ofChange fnTrimmedWordsSpec)

/-- ITS FALSE NEIGHBOUR: 'it returns false'. Refute it at one input. -/
def fnTrimmedWordsWrong : ChangeSpec := { name := "fnTrimmedWords", fn := fun _ => fun
  | [d1, d2, d3] => { results := [.lit (.bool false)], args := [d1, d2, d3] }
  | _ => none }
def FnTrimmedWordsWrongFalsely : Prop := fnTrimmedWordsRow.holds Tryz.pinned (OpenSpec.ofChange fnTrimmedWordsWrong)

/-- 'laws.FnBuiltResource': WHATEVER THE INPUT: true; the input reads as it did. -/
def fnBuiltResourceSpec : ChangeSpec := { name := "fnBuiltResource", fn := fun _ => fun
  | [d1, d2, d3, d4] => { results := [.lit (.bool true)], args := [d1, d2, d3, d4] }
  | _ => none }
def fnBuiltResourceRow : OpenClaim := { program := "ytjkecadfakjanaagreatdoor", sum := "e5eaa16e68ac3fc36d133172aca37e2e7f33abcef5b217e8c0825834f5559ef4", func := "pub-trackway/laws.FnBuiltResource", spec := "fnBuiltResource", inPlace := ["internal/abi.NoEscape", "internal/bytealg.MakeNoZero"], unfollowed := true, recurses := true, named := ["unicode/utf8.first", "unicode/utf8.acceptRanges", "unicode.CaseRanges"], apart := false, laid := [("unicode/utf8.acceptRanges", laid_unicode_utf8_acceptRanges), ("unicode.CaseRanges", laid_unicode_CaseRanges), ("unicode/utf8.first", laid_unicode_utf8_first)] }
def FnBuiltResourceSaid : Prop := fnBuiltResourceRow.holds Tryz.pinned (OpenSpec.ofChange fnBuiltResourceSpec)

/-- ITS FALSE NEIGHBOUR: 'it returns false'. Refute it at one input. -/
def fnBuiltResourceWrong : ChangeSpec := { name := "fnBuiltResource", fn := fun _ => fun
  | [d1, d2, d3, d4] => { results := [.lit (.bool false)], args := [d1, d2, d3, d4] }
  | _ => none }
def FnBuiltResourceWrongFalsely : Prop := fnBuiltResourceRow.holds Tryz.pinned (OpenSpec.ofChange fnBuiltResourceWrong)

/-- 'laws.FnBaseReTypedBuilt': WHATEVER THE INPUT: true; the input reads as it did. -/
def fnBaseReTypedBuiltSpec : ChangeSpec := { name := "fnBaseReTypedBuilt", fn := fun _ => fun
  | [d1, d2, d3, d4, d5] => { results := [.lit (.bool true)], args := [d1, d2, d3, d4, d5] }
  | _ => none }
def fnBaseReTypedBuiltRow : OpenClaim := { program := "ytjkecadfakjanaagreatdoor", sum := "e5eaa16e68ac3fc36d133172aca37e2e7f33abcef5b217e8c0825834f5559ef4", func := "pub-trackway/laws.FnBaseReTypedBuilt", spec := "fnBaseReTypedBuilt", inPlace := ["internal/abi.NoEscape", "internal/bytealg.MakeNoZero"], unfollowed := true, recurses := true, named := ["unicode/utf8.first", "unicode/utf8.acceptRanges", "unicode.CaseRanges"], apart := false, laid := [("unicode/utf8.acceptRanges", laid_unicode_utf8_acceptRanges), ("unicode.CaseRanges", laid_unicode_CaseRanges), ("unicode/utf8.first", laid_unicode_utf8_first)] }
def FnBaseReTypedBuiltSaid : Prop := fnBaseReTypedBuiltRow.holds Tryz.pinned (OpenSpec.ofChange fnBaseReTypedBuiltSpec)

/-- ITS FALSE NEIGHBOUR: 'it returns false'. Refute it at one input. -/
def fnBaseReTypedBuiltWrong : ChangeSpec := { name := "fnBaseReTypedBuilt", fn := fun _ => fun
  | [d1, d2, d3, d4, d5] => { results := [.lit (.bool false)], args := [d1, d2, d3, d4, d5] }
  | _ => none }
def FnBaseReTypedBuiltWrongFalsely : Prop := fnBaseReTypedBuiltRow.holds Tryz.pinned (OpenSpec.ofChange fnBaseReTypedBuiltWrong)

/-- 'laws.FnBaseRelBuilt': WHATEVER THE INPUT: true; the input reads as it did. -/
def fnBaseRelBuiltSpec : ChangeSpec := { name := "fnBaseRelBuilt", fn := fun _ => fun
  | [d1, d2, d3, d4, d5] => { results := [.lit (.bool true)], args := [d1, d2, d3, d4, d5] }
  | _ => none }
def fnBaseRelBuiltRow : OpenClaim := { program := "ytjkecadfakjanaagreatdoor", sum := "e5eaa16e68ac3fc36d133172aca37e2e7f33abcef5b217e8c0825834f5559ef4", func := "pub-trackway/laws.FnBaseRelBuilt", spec := "fnBaseRelBuilt", inPlace := ["internal/abi.NoEscape", "internal/bytealg.MakeNoZero"], unfollowed := true, recurses := true, named := ["unicode/utf8.first", "unicode/utf8.acceptRanges", "unicode.CaseRanges"], apart := false, laid := [("unicode/utf8.acceptRanges", laid_unicode_utf8_acceptRanges), ("unicode.CaseRanges", laid_unicode_CaseRanges), ("unicode/utf8.first", laid_unicode_utf8_first)] }
def FnBaseRelBuiltSaid : Prop := fnBaseRelBuiltRow.holds Tryz.pinned (OpenSpec.ofChange fnBaseRelBuiltSpec)

/-- ITS FALSE NEIGHBOUR: 'it returns false'. Refute it at one input. -/
def fnBaseRelBuiltWrong : ChangeSpec := { name := "fnBaseRelBuilt", fn := fun _ => fun
  | [d1, d2, d3, d4, d5] => { results := [.lit (.bool false)], args := [d1, d2, d3, d4, d5] }
  | _ => none }
def FnBaseRelBuiltWrongFalsely : Prop := fnBaseRelBuiltRow.holds Tryz.pinned (OpenSpec.ofChange fnBaseRelBuiltWrong)

/-- 'laws.FnBuiltCustom': WHATEVER THE INPUT: true; the input reads as it did. -/
def fnBuiltCustomSpec : ChangeSpec := { name := "fnBuiltCustom", fn := fun _ => fun
  | [d1, d2, d3, d4, d5] => { results := [.lit (.bool true)], args := [d1, d2, d3, d4, d5] }
  | _ => none }
def fnBuiltCustomRow : OpenClaim := { program := "ytjkecadfakjanaagreatdoor", sum := "e5eaa16e68ac3fc36d133172aca37e2e7f33abcef5b217e8c0825834f5559ef4", func := "pub-trackway/laws.FnBuiltCustom", spec := "fnBuiltCustom", inPlace := ["internal/abi.NoEscape", "internal/bytealg.MakeNoZero"], unfollowed := true, recurses := true, named := ["unicode/utf8.first", "unicode/utf8.acceptRanges", "unicode.CaseRanges"], apart := false, laid := [("unicode/utf8.acceptRanges", laid_unicode_utf8_acceptRanges), ("unicode.CaseRanges", laid_unicode_CaseRanges), ("unicode/utf8.first", laid_unicode_utf8_first)] }
def FnBuiltCustomSaid : Prop := fnBuiltCustomRow.holds Tryz.pinned (OpenSpec.ofChange fnBuiltCustomSpec)

/-- ITS FALSE NEIGHBOUR: 'it returns false'. Refute it at one input. -/
def fnBuiltCustomWrong : ChangeSpec := { name := "fnBuiltCustom", fn := fun _ => fun
  | [d1, d2, d3, d4, d5] => { results := [.lit (.bool false)], args := [d1, d2, d3, d4, d5] }
  | _ => none }
def FnBuiltCustomWrongFalsely : Prop := fnBuiltCustomRow.holds Tryz.pinned (OpenSpec.ofChange fnBuiltCustomWrong)

/-- 'laws.FnBuiltData': WHATEVER THE INPUT: true; the input reads as it did. -/
def fnBuiltDataSpec : ChangeSpec := { name := "fnBuiltData", fn := fun _ => fun
  | [d1, d2, d3] => { results := [.lit (.bool true)], args := [d1, d2, d3] }
  | _ => none }
def fnBuiltDataRow : OpenClaim := { program := "ytjkecadfakjanaagreatdoor", sum := "e5eaa16e68ac3fc36d133172aca37e2e7f33abcef5b217e8c0825834f5559ef4", func := "pub-trackway/laws.FnBuiltData", spec := "fnBuiltData", inPlace := ["internal/abi.NoEscape", "internal/bytealg.MakeNoZero"], unfollowed := true, recurses := true, named := ["unicode/utf8.first", "unicode/utf8.acceptRanges", "unicode.CaseRanges"], apart := false, laid := [("unicode/utf8.acceptRanges", laid_unicode_utf8_acceptRanges), ("unicode.CaseRanges", laid_unicode_CaseRanges), ("unicode/utf8.first", laid_unicode_utf8_first)] }
def FnBuiltDataSaid : Prop := fnBuiltDataRow.holds Tryz.pinned (OpenSpec.ofChange fnBuiltDataSpec)

/-- ITS FALSE NEIGHBOUR: 'it returns false'. Refute it at one input. -/
def fnBuiltDataWrong : ChangeSpec := { name := "fnBuiltData", fn := fun _ => fun
  | [d1, d2, d3] => { results := [.lit (.bool false)], args := [d1, d2, d3] }
  | _ => none }
def FnBuiltDataWrongFalsely : Prop := fnBuiltDataRow.holds Tryz.pinned (OpenSpec.ofChange fnBuiltDataWrong)

/-- 'laws.FnBuiltLayout': WHATEVER THE INPUT: true; the input reads as it did. -/
def fnBuiltLayoutSpec : ChangeSpec := { name := "fnBuiltLayout", fn := fun _ => fun
  | [d1, d2, d3, d4, d5] => { results := [.lit (.bool true)], args := [d1, d2, d3, d4, d5] }
  | _ => none }
def fnBuiltLayoutRow : OpenClaim := { program := "ytjkecadfakjanaagreatdoor", sum := "e5eaa16e68ac3fc36d133172aca37e2e7f33abcef5b217e8c0825834f5559ef4", func := "pub-trackway/laws.FnBuiltLayout", spec := "fnBuiltLayout", inPlace := ["internal/abi.NoEscape", "internal/bytealg.MakeNoZero"], unfollowed := true, recurses := true, named := ["unicode/utf8.first", "unicode/utf8.acceptRanges", "unicode.CaseRanges"], apart := false, laid := [("unicode/utf8.acceptRanges", laid_unicode_utf8_acceptRanges), ("unicode.CaseRanges", laid_unicode_CaseRanges), ("unicode/utf8.first", laid_unicode_utf8_first)] }
def FnBuiltLayoutSaid : Prop := fnBuiltLayoutRow.holds Tryz.pinned (OpenSpec.ofChange fnBuiltLayoutSpec)

/-- ITS FALSE NEIGHBOUR: 'it returns false'. Refute it at one input. -/
def fnBuiltLayoutWrong : ChangeSpec := { name := "fnBuiltLayout", fn := fun _ => fun
  | [d1, d2, d3, d4, d5] => { results := [.lit (.bool false)], args := [d1, d2, d3, d4, d5] }
  | _ => none }
def FnBuiltLayoutWrongFalsely : Prop := fnBuiltLayoutRow.holds Tryz.pinned (OpenSpec.ofChange fnBuiltLayoutWrong)

/-- 'laws.FnBuiltPage': WHATEVER THE INPUT: true; the input reads as it did. -/
def fnBuiltPageSpec : ChangeSpec := { name := "fnBuiltPage", fn := fun _ => fun
  | [d1, d2, d3, d4, d5] => { results := [.lit (.bool true)], args := [d1, d2, d3, d4, d5] }
  | _ => none }
def fnBuiltPageRow : OpenClaim := { program := "ytjkecadfakjanaagreatdoor", sum := "e5eaa16e68ac3fc36d133172aca37e2e7f33abcef5b217e8c0825834f5559ef4", func := "pub-trackway/laws.FnBuiltPage", spec := "fnBuiltPage", inPlace := ["internal/abi.NoEscape", "internal/bytealg.MakeNoZero"], unfollowed := true, recurses := true, named := ["unicode/utf8.first", "unicode/utf8.acceptRanges", "unicode.CaseRanges"], apart := false, laid := [("unicode/utf8.acceptRanges", laid_unicode_utf8_acceptRanges), ("unicode.CaseRanges", laid_unicode_CaseRanges), ("unicode/utf8.first", laid_unicode_utf8_first)] }
def FnBuiltPageSaid : Prop := fnBuiltPageRow.holds Tryz.pinned (OpenSpec.ofChange fnBuiltPageSpec)

/-- ITS FALSE NEIGHBOUR: 'it returns false'. Refute it at one input. -/
def fnBuiltPageWrong : ChangeSpec := { name := "fnBuiltPage", fn := fun _ => fun
  | [d1, d2, d3, d4, d5] => { results := [.lit (.bool false)], args := [d1, d2, d3, d4, d5] }
  | _ => none }
def FnBuiltPageWrongFalsely : Prop := fnBuiltPageRow.holds Tryz.pinned (OpenSpec.ofChange fnBuiltPageWrong)

/-- 'laws.FnBuiltSorts': WHATEVER THE INPUT: true; the input reads as it did. -/
def fnBuiltSortsSpec : ChangeSpec := { name := "fnBuiltSorts", fn := fun _ => fun
  | [d1, d2, d3, d4, d5] => { results := [.lit (.bool true)], args := [d1, d2, d3, d4, d5] }
  | _ => none }
def fnBuiltSortsRow : OpenClaim := { program := "ytjkecadfakjanaagreatdoor", sum := "e5eaa16e68ac3fc36d133172aca37e2e7f33abcef5b217e8c0825834f5559ef4", func := "pub-trackway/laws.FnBuiltSorts", spec := "fnBuiltSorts", inPlace := ["internal/abi.NoEscape", "internal/bytealg.MakeNoZero"], unfollowed := true, recurses := true, named := ["unicode/utf8.first", "unicode/utf8.acceptRanges", "unicode.CaseRanges"], apart := false, laid := [("unicode/utf8.acceptRanges", laid_unicode_utf8_acceptRanges), ("unicode.CaseRanges", laid_unicode_CaseRanges), ("unicode/utf8.first", laid_unicode_utf8_first)] }
def FnBuiltSortsSaid : Prop := fnBuiltSortsRow.holds Tryz.pinned (OpenSpec.ofChange fnBuiltSortsSpec)

/-- ITS FALSE NEIGHBOUR: 'it returns false'. Refute it at one input. -/
def fnBuiltSortsWrong : ChangeSpec := { name := "fnBuiltSorts", fn := fun _ => fun
  | [d1, d2, d3, d4, d5] => { results := [.lit (.bool false)], args := [d1, d2, d3, d4, d5] }
  | _ => none }
def FnBuiltSortsWrongFalsely : Prop := fnBuiltSortsRow.holds Tryz.pinned (OpenSpec.ofChange fnBuiltSortsWrong)

/- THE SECOND FORM. 'bulk': how many values and letters a reading holds, each counted each time it is reached (what is shared counts as often as it is met; a slice's spare places count too). A statement '..UptoSaid' is the law's where the arguments, and the package variables that the reading takes, are together of bulk at most 1048576: NARROWER than '..Said'. Prove '..Said' where nothing that the law and all that it calls make is longer than what came in: it says more and counts as full. Else prove '..UptoSaid'. A law counts once. -/
mutual
def uptoBulk {H : Type} : DataW H → Nat
  | .lit (.string bytes) => bytes.length + 1
  | .lit _ => 1
  | .nil => 1
  | .ptr d => uptoBulk d + 1
  | .slice elems spare => uptoBulkAll elems + uptoBulkAll spare + 1
  | .agg parts => uptoBulkAll parts + 1
  | .iface _ d => uptoBulk d + 1
  | .map entries => uptoBulkEntries entries + 1
  | .held _ => 1
def uptoBulkAll {H : Type} : List (DataW H) → Nat
  | [] => 0
  | d :: r => uptoBulk d + uptoBulkAll r
def uptoBulkEntries {H : Type} : List (Lit × DataW H) → Nat
  | [] => 0
  | x :: r => uptoBulkEntry x + uptoBulkEntries r
def uptoBulkEntry {H : Type} : Lit × DataW H → Nat
  | (.string bytes, d) => bytes.length + uptoBulk d + 1
  | (_, d) => uptoBulk d + 1
 end
def uptoSmall : (H : Type) → List (DataW H) → Bool := fun _ ds => decide (uptoBulkAll ds ≤ 1048576)
def OpenSpec.upto (s : _root_.Go.ChangeSpec) : _root_.Go.OpenSpec := { _root_.Go.OpenSpec.ofChange s with cond := some uptoSmall }

/-- 'laws.FnTrimmedWords', WHERE WHAT IT READS IS OF BULK AT MOST 1048576: true; the input reads as it did. -/
def fnTrimmedWordsUptoRow : OpenClaim := { program := "ytjkecadfakjanaagreatdoor", sum := "e5eaa16e68ac3fc36d133172aca37e2e7f33abcef5b217e8c0825834f5559ef4", func := "pub-trackway/laws.FnTrimmedWords", spec := "fnTrimmedWords", inPlace := ["internal/abi.NoEscape", "internal/bytealg.MakeNoZero"], unfollowed := true, recurses := true, named := ["unicode/utf8.first", "unicode/utf8.acceptRanges", "unicode.CaseRanges"], apart := false, laid := [("unicode/utf8.acceptRanges", laid_unicode_utf8_acceptRanges), ("unicode.CaseRanges", laid_unicode_CaseRanges), ("unicode/utf8.first", laid_unicode_utf8_first)], narrowed := true }
def FnTrimmedWordsUptoSaid : Prop := fnTrimmedWordsUptoRow.holds Tryz.pinned (OpenSpec.upto fnTrimmedWordsSpec)

/-- 'laws.FnBuiltResource', WHERE WHAT IT READS IS OF BULK AT MOST 1048576: true; the input reads as it did. -/
def fnBuiltResourceUptoRow : OpenClaim := { program := "ytjkecadfakjanaagreatdoor", sum := "e5eaa16e68ac3fc36d133172aca37e2e7f33abcef5b217e8c0825834f5559ef4", func := "pub-trackway/laws.FnBuiltResource", spec := "fnBuiltResource", inPlace := ["internal/abi.NoEscape", "internal/bytealg.MakeNoZero"], unfollowed := true, recurses := true, named := ["unicode/utf8.first", "unicode/utf8.acceptRanges", "unicode.CaseRanges"], apart := false, laid := [("unicode/utf8.acceptRanges", laid_unicode_utf8_acceptRanges), ("unicode.CaseRanges", laid_unicode_CaseRanges), ("unicode/utf8.first", laid_unicode_utf8_first)], narrowed := true }
def FnBuiltResourceUptoSaid : Prop := fnBuiltResourceUptoRow.holds Tryz.pinned (OpenSpec.upto fnBuiltResourceSpec)

/-- 'laws.FnBaseReTypedBuilt', WHERE WHAT IT READS IS OF BULK AT MOST 1048576: true; the input reads as it did. -/
def fnBaseReTypedBuiltUptoRow : OpenClaim := { program := "ytjkecadfakjanaagreatdoor", sum := "e5eaa16e68ac3fc36d133172aca37e2e7f33abcef5b217e8c0825834f5559ef4", func := "pub-trackway/laws.FnBaseReTypedBuilt", spec := "fnBaseReTypedBuilt", inPlace := ["internal/abi.NoEscape", "internal/bytealg.MakeNoZero"], unfollowed := true, recurses := true, named := ["unicode/utf8.first", "unicode/utf8.acceptRanges", "unicode.CaseRanges"], apart := false, laid := [("unicode/utf8.acceptRanges", laid_unicode_utf8_acceptRanges), ("unicode.CaseRanges", laid_unicode_CaseRanges), ("unicode/utf8.first", laid_unicode_utf8_first)], narrowed := true }
def FnBaseReTypedBuiltUptoSaid : Prop := fnBaseReTypedBuiltUptoRow.holds Tryz.pinned (OpenSpec.upto fnBaseReTypedBuiltSpec)

/-- 'laws.FnBaseRelBuilt', WHERE WHAT IT READS IS OF BULK AT MOST 1048576: true; the input reads as it did. -/
def fnBaseRelBuiltUptoRow : OpenClaim := { program := "ytjkecadfakjanaagreatdoor", sum := "e5eaa16e68ac3fc36d133172aca37e2e7f33abcef5b217e8c0825834f5559ef4", func := "pub-trackway/laws.FnBaseRelBuilt", spec := "fnBaseRelBuilt", inPlace := ["internal/abi.NoEscape", "internal/bytealg.MakeNoZero"], unfollowed := true, recurses := true, named := ["unicode/utf8.first", "unicode/utf8.acceptRanges", "unicode.CaseRanges"], apart := false, laid := [("unicode/utf8.acceptRanges", laid_unicode_utf8_acceptRanges), ("unicode.CaseRanges", laid_unicode_CaseRanges), ("unicode/utf8.first", laid_unicode_utf8_first)], narrowed := true }
def FnBaseRelBuiltUptoSaid : Prop := fnBaseRelBuiltUptoRow.holds Tryz.pinned (OpenSpec.upto fnBaseRelBuiltSpec)

/-- 'laws.FnBuiltCustom', WHERE WHAT IT READS IS OF BULK AT MOST 1048576: true; the input reads as it did. -/
def fnBuiltCustomUptoRow : OpenClaim := { program := "ytjkecadfakjanaagreatdoor", sum := "e5eaa16e68ac3fc36d133172aca37e2e7f33abcef5b217e8c0825834f5559ef4", func := "pub-trackway/laws.FnBuiltCustom", spec := "fnBuiltCustom", inPlace := ["internal/abi.NoEscape", "internal/bytealg.MakeNoZero"], unfollowed := true, recurses := true, named := ["unicode/utf8.first", "unicode/utf8.acceptRanges", "unicode.CaseRanges"], apart := false, laid := [("unicode/utf8.acceptRanges", laid_unicode_utf8_acceptRanges), ("unicode.CaseRanges", laid_unicode_CaseRanges), ("unicode/utf8.first", laid_unicode_utf8_first)], narrowed := true }
def FnBuiltCustomUptoSaid : Prop := fnBuiltCustomUptoRow.holds Tryz.pinned (OpenSpec.upto fnBuiltCustomSpec)

/-- 'laws.FnBuiltData', WHERE WHAT IT READS IS OF BULK AT MOST 1048576: true; the input reads as it did. -/
def fnBuiltDataUptoRow : OpenClaim := { program := "ytjkecadfakjanaagreatdoor", sum := "e5eaa16e68ac3fc36d133172aca37e2e7f33abcef5b217e8c0825834f5559ef4", func := "pub-trackway/laws.FnBuiltData", spec := "fnBuiltData", inPlace := ["internal/abi.NoEscape", "internal/bytealg.MakeNoZero"], unfollowed := true, recurses := true, named := ["unicode/utf8.first", "unicode/utf8.acceptRanges", "unicode.CaseRanges"], apart := false, laid := [("unicode/utf8.acceptRanges", laid_unicode_utf8_acceptRanges), ("unicode.CaseRanges", laid_unicode_CaseRanges), ("unicode/utf8.first", laid_unicode_utf8_first)], narrowed := true }
def FnBuiltDataUptoSaid : Prop := fnBuiltDataUptoRow.holds Tryz.pinned (OpenSpec.upto fnBuiltDataSpec)

/-- 'laws.FnBuiltLayout', WHERE WHAT IT READS IS OF BULK AT MOST 1048576: true; the input reads as it did. -/
def fnBuiltLayoutUptoRow : OpenClaim := { program := "ytjkecadfakjanaagreatdoor", sum := "e5eaa16e68ac3fc36d133172aca37e2e7f33abcef5b217e8c0825834f5559ef4", func := "pub-trackway/laws.FnBuiltLayout", spec := "fnBuiltLayout", inPlace := ["internal/abi.NoEscape", "internal/bytealg.MakeNoZero"], unfollowed := true, recurses := true, named := ["unicode/utf8.first", "unicode/utf8.acceptRanges", "unicode.CaseRanges"], apart := false, laid := [("unicode/utf8.acceptRanges", laid_unicode_utf8_acceptRanges), ("unicode.CaseRanges", laid_unicode_CaseRanges), ("unicode/utf8.first", laid_unicode_utf8_first)], narrowed := true }
def FnBuiltLayoutUptoSaid : Prop := fnBuiltLayoutUptoRow.holds Tryz.pinned (OpenSpec.upto fnBuiltLayoutSpec)

/-- 'laws.FnBuiltPage', WHERE WHAT IT READS IS OF BULK AT MOST 1048576: true; the input reads as it did. -/
def fnBuiltPageUptoRow : OpenClaim := { program := "ytjkecadfakjanaagreatdoor", sum := "e5eaa16e68ac3fc36d133172aca37e2e7f33abcef5b217e8c0825834f5559ef4", func := "pub-trackway/laws.FnBuiltPage", spec := "fnBuiltPage", inPlace := ["internal/abi.NoEscape", "internal/bytealg.MakeNoZero"], unfollowed := true, recurses := true, named := ["unicode/utf8.first", "unicode/utf8.acceptRanges", "unicode.CaseRanges"], apart := false, laid := [("unicode/utf8.acceptRanges", laid_unicode_utf8_acceptRanges), ("unicode.CaseRanges", laid_unicode_CaseRanges), ("unicode/utf8.first", laid_unicode_utf8_first)], narrowed := true }
def FnBuiltPageUptoSaid : Prop := fnBuiltPageUptoRow.holds Tryz.pinned (OpenSpec.upto fnBuiltPageSpec)

/-- 'laws.FnBuiltSorts', WHERE WHAT IT READS IS OF BULK AT MOST 1048576: true; the input reads as it did. -/
def fnBuiltSortsUptoRow : OpenClaim := { program := "ytjkecadfakjanaagreatdoor", sum := "e5eaa16e68ac3fc36d133172aca37e2e7f33abcef5b217e8c0825834f5559ef4", func := "pub-trackway/laws.FnBuiltSorts", spec := "fnBuiltSorts", inPlace := ["internal/abi.NoEscape", "internal/bytealg.MakeNoZero"], unfollowed := true, recurses := true, named := ["unicode/utf8.first", "unicode/utf8.acceptRanges", "unicode.CaseRanges"], apart := false, laid := [("unicode/utf8.acceptRanges", laid_unicode_utf8_acceptRanges), ("unicode.CaseRanges", laid_unicode_CaseRanges), ("unicode/utf8.first", laid_unicode_utf8_first)], narrowed := true }
def FnBuiltSortsUptoSaid : Prop := fnBuiltSortsUptoRow.holds Tryz.pinned (OpenSpec.upto fnBuiltSortsSpec)

end Rows
end Go.Proofs.YtjkecadfakjanaaGreatDoor
