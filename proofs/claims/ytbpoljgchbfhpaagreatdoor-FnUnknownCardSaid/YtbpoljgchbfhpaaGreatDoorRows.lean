/-
  NARROWER THAN 'FOR EVERY INPUT', by the rows' own cells (each row's printed sentence says how): FnIsBranch: laid · FnIsContent: laid · FnIsContentData: laid · FnKind: laid · FnLang: laid · FnLangs: laid · FnNameNoExt: laid · FnNameNoIdentifier: laid · FnPath: laid · FnPathNoIdentifier: laid · FnSection: laid · FnUnknown: laid.
  DERIVED. THE GIVEN ROWS OF THIS SEAT. 12 by the template 'for every input the law returns true; each argument reads behind the call as it read before'; 0 by the template 'total and deterministic' (their statements: YtbpoljgchbfhpaaGreatDoorTotals.lean).
  GIVEN WITH THE SEED: the statements are not yours to turn. If you find one false, say at which input.
  Laid BY PROGRAM, IN A SANDBOX (cutbox-rows.mjs): the forced cells as the released guide's own fill.sh prints them over the translation 1d64a2771cf85b73… (all of the seat's roots in one cut). By AI agents, Wed Nov 11 2026. No macro, syntax, notation, axiom, sorry.
-/
import Derived.Test.YtbpoljgchbfhpaaGreatDoorChecked
import GoSem.PinnedTables
import GoSem.Claim
import GoSem.ClaimJoined
import GoSem.ClaimMapViews
import Derived.JoinedTies
import Derived.KernelRfl
namespace Go.Proofs.YtbpoljgchbfhpaaGreatDoor
/- THE CELL 'sum', in the pinned program and in every row, IS THE sha256 OF THE DUMP (.gsa) THAT YtbpoljgchbfhpaaGreatDoorProg.lean LOADS. Nothing in Lean hashes anything: it is a label: what it is worth is what the hold of that sum in a sandbox is worth. -/
noncomputable def Tryz.pinned : Pinned := { name := "ytbpoljgchbfhpaagreatdoor", sum := "1d64a2771cf85b732123d184c2c1dc425fa1ae0529b82354deeba25ce3dceed0", checked := Tryz.checked }
namespace Rows
def none {H : Type} : Left H := { results := [], args := [] }

/- WHAT THE LISTED PACKAGE-LEVEL VARIABLES READ AS WHEN THE CALL BEGINS. Each datum BY PROGRAM (the guide's laid-datum.mjs) off the statement by which the dump's own 'gosem.cut.vars' lays the variable. In a bare row this is a premise. The card (YtbpoljgchbfhpaaGreatDoorCards.lean) ties it to the program's text. -/
def laid_unicode_utf8_acceptRanges {H : Type} : DataW H := .agg [.agg [.lit (.int .u8 128), .lit (.int .u8 191)], .agg [.lit (.int .u8 160), .lit (.int .u8 191)], .agg [.lit (.int .u8 128), .lit (.int .u8 159)], .agg [.lit (.int .u8 144), .lit (.int .u8 191)], .agg [.lit (.int .u8 128), .lit (.int .u8 143)], .agg [.lit (.int .u8 0), .lit (.int .u8 0)], .agg [.lit (.int .u8 0), .lit (.int .u8 0)], .agg [.lit (.int .u8 0), .lit (.int .u8 0)], .agg [.lit (.int .u8 0), .lit (.int .u8 0)], .agg [.lit (.int .u8 0), .lit (.int .u8 0)], .agg [.lit (.int .u8 0), .lit (.int .u8 0)], .agg [.lit (.int .u8 0), .lit (.int .u8 0)], .agg [.lit (.int .u8 0), .lit (.int .u8 0)], .agg [.lit (.int .u8 0), .lit (.int .u8 0)], .agg [.lit (.int .u8 0), .lit (.int .u8 0)], .agg [.lit (.int .u8 0), .lit (.int .u8 0)]]
/-- One of Go's own tables, pinned by name: the form's constant. -/
def laid_unicode_CaseRanges : DataW Unit := Go.Pinned.caseRanges
/-- One of Go's own tables, pinned by name: the form's constant. -/
def laid_unicode_utf8_first : DataW Unit := Go.Pinned.utf8First

/-- 'laws.FnIsBranch': WHATEVER THE INPUT: true; the input reads as it did. -/
def fnIsBranchSpec : ChangeSpec := { name := "fnIsBranch", fn := fun _ => fun
  | [d1, d2, d3] => { results := [.lit (.bool true)], args := [d1, d2, d3] }
  | _ => none }
def fnIsBranchRow : OpenClaim := { program := "ytbpoljgchbfhpaagreatdoor", sum := "1d64a2771cf85b732123d184c2c1dc425fa1ae0529b82354deeba25ce3dceed0", func := "pub-trackway/laws.FnIsBranch", spec := "fnIsBranch", inPlace := ["internal/abi.NoEscape", "internal/bytealg.MakeNoZero"], unfollowed := true, recurses := true, named := ["unicode/utf8.first", "unicode/utf8.acceptRanges", "unicode.CaseRanges"], apart := false, laid := [("unicode/utf8.acceptRanges", laid_unicode_utf8_acceptRanges), ("unicode.CaseRanges", laid_unicode_CaseRanges), ("unicode/utf8.first", laid_unicode_utf8_first)] }
def FnIsBranchSaid : Prop := fnIsBranchRow.holds Tryz.pinned (OpenSpec.ofChange fnIsBranchSpec)

/-- ITS FALSE NEIGHBOUR: 'it returns false'. Refute it at one input. -/
def fnIsBranchWrong : ChangeSpec := { name := "fnIsBranch", fn := fun _ => fun
  | [d1, d2, d3] => { results := [.lit (.bool false)], args := [d1, d2, d3] }
  | _ => none }
def FnIsBranchWrongFalsely : Prop := fnIsBranchRow.holds Tryz.pinned (OpenSpec.ofChange fnIsBranchWrong)

/-- 'laws.FnIsContent': WHATEVER THE INPUT: true; the input reads as it did. -/
def fnIsContentSpec : ChangeSpec := { name := "fnIsContent", fn := fun _ => fun
  | [d1, d2, d3] => { results := [.lit (.bool true)], args := [d1, d2, d3] }
  | _ => none }
def fnIsContentRow : OpenClaim := { program := "ytbpoljgchbfhpaagreatdoor", sum := "1d64a2771cf85b732123d184c2c1dc425fa1ae0529b82354deeba25ce3dceed0", func := "pub-trackway/laws.FnIsContent", spec := "fnIsContent", inPlace := ["internal/abi.NoEscape", "internal/bytealg.MakeNoZero"], unfollowed := true, recurses := true, named := ["unicode/utf8.first", "unicode/utf8.acceptRanges", "unicode.CaseRanges"], apart := false, laid := [("unicode/utf8.acceptRanges", laid_unicode_utf8_acceptRanges), ("unicode.CaseRanges", laid_unicode_CaseRanges), ("unicode/utf8.first", laid_unicode_utf8_first)] }
def FnIsContentSaid : Prop := fnIsContentRow.holds Tryz.pinned (OpenSpec.ofChange fnIsContentSpec)

/-- ITS FALSE NEIGHBOUR: 'it returns false'. Refute it at one input. -/
def fnIsContentWrong : ChangeSpec := { name := "fnIsContent", fn := fun _ => fun
  | [d1, d2, d3] => { results := [.lit (.bool false)], args := [d1, d2, d3] }
  | _ => none }
def FnIsContentWrongFalsely : Prop := fnIsContentRow.holds Tryz.pinned (OpenSpec.ofChange fnIsContentWrong)

/-- 'laws.FnIsContentData': WHATEVER THE INPUT: true; the input reads as it did. -/
def fnIsContentDataSpec : ChangeSpec := { name := "fnIsContentData", fn := fun _ => fun
  | [d1, d2, d3] => { results := [.lit (.bool true)], args := [d1, d2, d3] }
  | _ => none }
def fnIsContentDataRow : OpenClaim := { program := "ytbpoljgchbfhpaagreatdoor", sum := "1d64a2771cf85b732123d184c2c1dc425fa1ae0529b82354deeba25ce3dceed0", func := "pub-trackway/laws.FnIsContentData", spec := "fnIsContentData", inPlace := ["internal/abi.NoEscape", "internal/bytealg.MakeNoZero"], unfollowed := true, recurses := true, named := ["unicode/utf8.first", "unicode/utf8.acceptRanges", "unicode.CaseRanges"], apart := false, laid := [("unicode/utf8.acceptRanges", laid_unicode_utf8_acceptRanges), ("unicode.CaseRanges", laid_unicode_CaseRanges), ("unicode/utf8.first", laid_unicode_utf8_first)] }
def FnIsContentDataSaid : Prop := fnIsContentDataRow.holds Tryz.pinned (OpenSpec.ofChange fnIsContentDataSpec)

/-- ITS FALSE NEIGHBOUR: 'it returns false'. Refute it at one input. -/
def fnIsContentDataWrong : ChangeSpec := { name := "fnIsContentData", fn := fun _ => fun
  | [d1, d2, d3] => { results := [.lit (.bool false)], args := [d1, d2, d3] }
  | _ => none }
def FnIsContentDataWrongFalsely : Prop := fnIsContentDataRow.holds Tryz.pinned (OpenSpec.ofChange fnIsContentDataWrong)

/-- 'laws.FnKind': WHATEVER THE INPUT: true; the input reads as it did. -/
def fnKindSpec : ChangeSpec := { name := "fnKind", fn := fun _ => fun
  | [d1, d2, d3] => { results := [.lit (.bool true)], args := [d1, d2, d3] }
  | _ => none }
def fnKindRow : OpenClaim := { program := "ytbpoljgchbfhpaagreatdoor", sum := "1d64a2771cf85b732123d184c2c1dc425fa1ae0529b82354deeba25ce3dceed0", func := "pub-trackway/laws.FnKind", spec := "fnKind", inPlace := ["internal/abi.NoEscape", "internal/bytealg.MakeNoZero"], unfollowed := true, recurses := true, named := ["unicode/utf8.first", "unicode/utf8.acceptRanges", "unicode.CaseRanges"], apart := false, laid := [("unicode/utf8.acceptRanges", laid_unicode_utf8_acceptRanges), ("unicode.CaseRanges", laid_unicode_CaseRanges), ("unicode/utf8.first", laid_unicode_utf8_first)] }
def FnKindSaid : Prop := fnKindRow.holds Tryz.pinned (OpenSpec.ofChange fnKindSpec)

/-- ITS FALSE NEIGHBOUR: 'it returns false'. Refute it at one input. -/
def fnKindWrong : ChangeSpec := { name := "fnKind", fn := fun _ => fun
  | [d1, d2, d3] => { results := [.lit (.bool false)], args := [d1, d2, d3] }
  | _ => none }
def FnKindWrongFalsely : Prop := fnKindRow.holds Tryz.pinned (OpenSpec.ofChange fnKindWrong)

/-- 'laws.FnLang': WHATEVER THE INPUT: true; the input reads as it did. -/
def fnLangSpec : ChangeSpec := { name := "fnLang", fn := fun _ => fun
  | [d1, d2, d3] => { results := [.lit (.bool true)], args := [d1, d2, d3] }
  | _ => none }
def fnLangRow : OpenClaim := { program := "ytbpoljgchbfhpaagreatdoor", sum := "1d64a2771cf85b732123d184c2c1dc425fa1ae0529b82354deeba25ce3dceed0", func := "pub-trackway/laws.FnLang", spec := "fnLang", inPlace := ["internal/abi.NoEscape", "internal/bytealg.MakeNoZero"], unfollowed := true, recurses := true, named := ["unicode/utf8.first", "unicode/utf8.acceptRanges", "unicode.CaseRanges"], apart := false, laid := [("unicode/utf8.acceptRanges", laid_unicode_utf8_acceptRanges), ("unicode.CaseRanges", laid_unicode_CaseRanges), ("unicode/utf8.first", laid_unicode_utf8_first)] }
def FnLangSaid : Prop := fnLangRow.holds Tryz.pinned (OpenSpec.ofChange fnLangSpec)

/-- ITS FALSE NEIGHBOUR: 'it returns false'. Refute it at one input. -/
def fnLangWrong : ChangeSpec := { name := "fnLang", fn := fun _ => fun
  | [d1, d2, d3] => { results := [.lit (.bool false)], args := [d1, d2, d3] }
  | _ => none }
def FnLangWrongFalsely : Prop := fnLangRow.holds Tryz.pinned (OpenSpec.ofChange fnLangWrong)

/-- 'laws.FnLangs': WHATEVER THE INPUT: true; the input reads as it did. -/
def fnLangsSpec : ChangeSpec := { name := "fnLangs", fn := fun _ => fun
  | [d1, d2, d3] => { results := [.lit (.bool true)], args := [d1, d2, d3] }
  | _ => none }
def fnLangsRow : OpenClaim := { program := "ytbpoljgchbfhpaagreatdoor", sum := "1d64a2771cf85b732123d184c2c1dc425fa1ae0529b82354deeba25ce3dceed0", func := "pub-trackway/laws.FnLangs", spec := "fnLangs", inPlace := ["internal/abi.NoEscape", "internal/bytealg.MakeNoZero"], unfollowed := true, recurses := true, named := ["unicode/utf8.first", "unicode/utf8.acceptRanges", "unicode.CaseRanges"], apart := false, laid := [("unicode/utf8.acceptRanges", laid_unicode_utf8_acceptRanges), ("unicode.CaseRanges", laid_unicode_CaseRanges), ("unicode/utf8.first", laid_unicode_utf8_first)] }
def FnLangsSaid : Prop := fnLangsRow.holds Tryz.pinned (OpenSpec.ofChange fnLangsSpec)

/-- ITS FALSE NEIGHBOUR: 'it returns false'. Refute it at one input. -/
def fnLangsWrong : ChangeSpec := { name := "fnLangs", fn := fun _ => fun
  | [d1, d2, d3] => { results := [.lit (.bool false)], args := [d1, d2, d3] }
  | _ => none }
def FnLangsWrongFalsely : Prop := fnLangsRow.holds Tryz.pinned (OpenSpec.ofChange fnLangsWrong)

/-- 'laws.FnNameNoExt': WHATEVER THE INPUT: true; the input reads as it did. -/
def fnNameNoExtSpec : ChangeSpec := { name := "fnNameNoExt", fn := fun _ => fun
  | [d1, d2, d3] => { results := [.lit (.bool true)], args := [d1, d2, d3] }
  | _ => none }
def fnNameNoExtRow : OpenClaim := { program := "ytbpoljgchbfhpaagreatdoor", sum := "1d64a2771cf85b732123d184c2c1dc425fa1ae0529b82354deeba25ce3dceed0", func := "pub-trackway/laws.FnNameNoExt", spec := "fnNameNoExt", inPlace := ["internal/abi.NoEscape", "internal/bytealg.MakeNoZero"], unfollowed := true, recurses := true, named := ["unicode/utf8.first", "unicode/utf8.acceptRanges", "unicode.CaseRanges"], apart := false, laid := [("unicode/utf8.acceptRanges", laid_unicode_utf8_acceptRanges), ("unicode.CaseRanges", laid_unicode_CaseRanges), ("unicode/utf8.first", laid_unicode_utf8_first)] }
def FnNameNoExtSaid : Prop := fnNameNoExtRow.holds Tryz.pinned (OpenSpec.ofChange fnNameNoExtSpec)

/-- ITS FALSE NEIGHBOUR: 'it returns false'. Refute it at one input. -/
def fnNameNoExtWrong : ChangeSpec := { name := "fnNameNoExt", fn := fun _ => fun
  | [d1, d2, d3] => { results := [.lit (.bool false)], args := [d1, d2, d3] }
  | _ => none }
def FnNameNoExtWrongFalsely : Prop := fnNameNoExtRow.holds Tryz.pinned (OpenSpec.ofChange fnNameNoExtWrong)

/-- 'laws.FnNameNoIdentifier': WHATEVER THE INPUT: true; the input reads as it did. -/
def fnNameNoIdentifierSpec : ChangeSpec := { name := "fnNameNoIdentifier", fn := fun _ => fun
  | [d1, d2, d3] => { results := [.lit (.bool true)], args := [d1, d2, d3] }
  | _ => none }
def fnNameNoIdentifierRow : OpenClaim := { program := "ytbpoljgchbfhpaagreatdoor", sum := "1d64a2771cf85b732123d184c2c1dc425fa1ae0529b82354deeba25ce3dceed0", func := "pub-trackway/laws.FnNameNoIdentifier", spec := "fnNameNoIdentifier", inPlace := ["internal/abi.NoEscape", "internal/bytealg.MakeNoZero"], unfollowed := true, recurses := true, named := ["unicode/utf8.first", "unicode/utf8.acceptRanges", "unicode.CaseRanges"], apart := false, laid := [("unicode/utf8.acceptRanges", laid_unicode_utf8_acceptRanges), ("unicode.CaseRanges", laid_unicode_CaseRanges), ("unicode/utf8.first", laid_unicode_utf8_first)] }
def FnNameNoIdentifierSaid : Prop := fnNameNoIdentifierRow.holds Tryz.pinned (OpenSpec.ofChange fnNameNoIdentifierSpec)

/-- ITS FALSE NEIGHBOUR: 'it returns false'. Refute it at one input. -/
def fnNameNoIdentifierWrong : ChangeSpec := { name := "fnNameNoIdentifier", fn := fun _ => fun
  | [d1, d2, d3] => { results := [.lit (.bool false)], args := [d1, d2, d3] }
  | _ => none }
def FnNameNoIdentifierWrongFalsely : Prop := fnNameNoIdentifierRow.holds Tryz.pinned (OpenSpec.ofChange fnNameNoIdentifierWrong)

/-- 'laws.FnPath': WHATEVER THE INPUT: true; the input reads as it did. -/
def fnPathSpec : ChangeSpec := { name := "fnPath", fn := fun _ => fun
  | [d1, d2, d3] => { results := [.lit (.bool true)], args := [d1, d2, d3] }
  | _ => none }
def fnPathRow : OpenClaim := { program := "ytbpoljgchbfhpaagreatdoor", sum := "1d64a2771cf85b732123d184c2c1dc425fa1ae0529b82354deeba25ce3dceed0", func := "pub-trackway/laws.FnPath", spec := "fnPath", inPlace := ["internal/abi.NoEscape", "internal/bytealg.MakeNoZero"], unfollowed := true, recurses := true, named := ["unicode/utf8.first", "unicode/utf8.acceptRanges", "unicode.CaseRanges"], apart := false, laid := [("unicode/utf8.acceptRanges", laid_unicode_utf8_acceptRanges), ("unicode.CaseRanges", laid_unicode_CaseRanges), ("unicode/utf8.first", laid_unicode_utf8_first)] }
def FnPathSaid : Prop := fnPathRow.holds Tryz.pinned (OpenSpec.ofChange fnPathSpec)

/-- ITS FALSE NEIGHBOUR: 'it returns false'. Refute it at one input. -/
def fnPathWrong : ChangeSpec := { name := "fnPath", fn := fun _ => fun
  | [d1, d2, d3] => { results := [.lit (.bool false)], args := [d1, d2, d3] }
  | _ => none }
def FnPathWrongFalsely : Prop := fnPathRow.holds Tryz.pinned (OpenSpec.ofChange fnPathWrong)

/-- 'laws.FnPathNoIdentifier': WHATEVER THE INPUT: true; the input reads as it did. -/
def fnPathNoIdentifierSpec : ChangeSpec := { name := "fnPathNoIdentifier", fn := fun _ => fun
  | [d1, d2, d3] => { results := [.lit (.bool true)], args := [d1, d2, d3] }
  | _ => none }
def fnPathNoIdentifierRow : OpenClaim := { program := "ytbpoljgchbfhpaagreatdoor", sum := "1d64a2771cf85b732123d184c2c1dc425fa1ae0529b82354deeba25ce3dceed0", func := "pub-trackway/laws.FnPathNoIdentifier", spec := "fnPathNoIdentifier", inPlace := ["internal/abi.NoEscape", "internal/bytealg.MakeNoZero"], unfollowed := true, recurses := true, named := ["unicode/utf8.first", "unicode/utf8.acceptRanges", "unicode.CaseRanges"], apart := false, laid := [("unicode/utf8.acceptRanges", laid_unicode_utf8_acceptRanges), ("unicode.CaseRanges", laid_unicode_CaseRanges), ("unicode/utf8.first", laid_unicode_utf8_first)] }
def FnPathNoIdentifierSaid : Prop := fnPathNoIdentifierRow.holds Tryz.pinned (OpenSpec.ofChange fnPathNoIdentifierSpec)

/-- ITS FALSE NEIGHBOUR: 'it returns false'. Refute it at one input. -/
def fnPathNoIdentifierWrong : ChangeSpec := { name := "fnPathNoIdentifier", fn := fun _ => fun
  | [d1, d2, d3] => { results := [.lit (.bool false)], args := [d1, d2, d3] }
  | _ => none }
def FnPathNoIdentifierWrongFalsely : Prop := fnPathNoIdentifierRow.holds Tryz.pinned (OpenSpec.ofChange fnPathNoIdentifierWrong)

/-- 'laws.FnSection': WHATEVER THE INPUT: true; the input reads as it did. -/
def fnSectionSpec : ChangeSpec := { name := "fnSection", fn := fun _ => fun
  | [d1, d2, d3] => { results := [.lit (.bool true)], args := [d1, d2, d3] }
  | _ => none }
def fnSectionRow : OpenClaim := { program := "ytbpoljgchbfhpaagreatdoor", sum := "1d64a2771cf85b732123d184c2c1dc425fa1ae0529b82354deeba25ce3dceed0", func := "pub-trackway/laws.FnSection", spec := "fnSection", inPlace := ["internal/abi.NoEscape", "internal/bytealg.MakeNoZero"], unfollowed := true, recurses := true, named := ["unicode/utf8.first", "unicode/utf8.acceptRanges", "unicode.CaseRanges"], apart := false, laid := [("unicode/utf8.acceptRanges", laid_unicode_utf8_acceptRanges), ("unicode.CaseRanges", laid_unicode_CaseRanges), ("unicode/utf8.first", laid_unicode_utf8_first)] }
def FnSectionSaid : Prop := fnSectionRow.holds Tryz.pinned (OpenSpec.ofChange fnSectionSpec)

/-- ITS FALSE NEIGHBOUR: 'it returns false'. Refute it at one input. -/
def fnSectionWrong : ChangeSpec := { name := "fnSection", fn := fun _ => fun
  | [d1, d2, d3] => { results := [.lit (.bool false)], args := [d1, d2, d3] }
  | _ => none }
def FnSectionWrongFalsely : Prop := fnSectionRow.holds Tryz.pinned (OpenSpec.ofChange fnSectionWrong)

/-- 'laws.FnUnknown': WHATEVER THE INPUT: true; the input reads as it did. -/
def fnUnknownSpec : ChangeSpec := { name := "fnUnknown", fn := fun _ => fun
  | [d1, d2, d3] => { results := [.lit (.bool true)], args := [d1, d2, d3] }
  | _ => none }
def fnUnknownRow : OpenClaim := { program := "ytbpoljgchbfhpaagreatdoor", sum := "1d64a2771cf85b732123d184c2c1dc425fa1ae0529b82354deeba25ce3dceed0", func := "pub-trackway/laws.FnUnknown", spec := "fnUnknown", inPlace := ["internal/abi.NoEscape", "internal/bytealg.MakeNoZero"], unfollowed := true, recurses := true, named := ["unicode/utf8.first", "unicode/utf8.acceptRanges", "unicode.CaseRanges"], apart := false, laid := [("unicode/utf8.acceptRanges", laid_unicode_utf8_acceptRanges), ("unicode.CaseRanges", laid_unicode_CaseRanges), ("unicode/utf8.first", laid_unicode_utf8_first)] }
def FnUnknownSaid : Prop := fnUnknownRow.holds Tryz.pinned (OpenSpec.ofChange fnUnknownSpec)

/-- ITS FALSE NEIGHBOUR: 'it returns false'. Refute it at one input. -/
def fnUnknownWrong : ChangeSpec := { name := "fnUnknown", fn := fun _ => fun
  | [d1, d2, d3] => { results := [.lit (.bool false)], args := [d1, d2, d3] }
  | _ => none }
def FnUnknownWrongFalsely : Prop := fnUnknownRow.holds Tryz.pinned (OpenSpec.ofChange fnUnknownWrong)

/- THE SECOND FORM. 'bulk': how many values and letters a reading holds, each counted each time it is reached (what is shared counts as often as it is met; a slice's spare places count too). A statement '..UptoSaid' is the law's where the arguments, and the package variables that the reading takes, are together of bulk at most 1048576: NARROWER than '..Said'. Prove '..Said' where nothing that the law and all that it calls make is longer than what came in: it says more and counts as full. Else prove '..UptoSaid'. A law counts once. -/
mutual
def uptoBulk {H : Type} : DataW H → Nat
  | .lit (.string bytes) => bytes.length + 1
  | .lit _ => 1
  | .nil => 1
  | .ptr d => uptoBulk d + 1
  | .slice elems spare => uptoBulkAll elems + uptoBulkAll spare + 1
  | .agg parts => uptoBulkAll parts + 1
  | .iface _ d => uptoBulk d + 1
  | .map entries => uptoBulkEntries entries + 1
  | .held _ => 1
def uptoBulkAll {H : Type} : List (DataW H) → Nat
  | [] => 0
  | d :: r => uptoBulk d + uptoBulkAll r
def uptoBulkEntries {H : Type} : List (Lit × DataW H) → Nat
  | [] => 0
  | x :: r => uptoBulkEntry x + uptoBulkEntries r
def uptoBulkEntry {H : Type} : Lit × DataW H → Nat
  | (.string bytes, d) => bytes.length + uptoBulk d + 1
  | (_, d) => uptoBulk d + 1
 end
def uptoSmall : (H : Type) → List (DataW H) → Bool := fun _ ds => decide (uptoBulkAll ds ≤ 1048576)
def OpenSpec.upto (s : _root_.Go.ChangeSpec) : _root_.Go.OpenSpec := { _root_.Go.OpenSpec.ofChange s with cond := some uptoSmall }

/-- 'laws.FnIsBranch', WHERE WHAT IT READS IS OF BULK AT MOST 1048576: true; the input reads as it did. -/
def fnIsBranchUptoRow : OpenClaim := { program := "ytbpoljgchbfhpaagreatdoor", sum := "1d64a2771cf85b732123d184c2c1dc425fa1ae0529b82354deeba25ce3dceed0", func := "pub-trackway/laws.FnIsBranch", spec := "fnIsBranch", inPlace := ["internal/abi.NoEscape", "internal/bytealg.MakeNoZero"], unfollowed := true, recurses := true, named := ["unicode/utf8.first", "unicode/utf8.acceptRanges", "unicode.CaseRanges"], apart := false, laid := [("unicode/utf8.acceptRanges", laid_unicode_utf8_acceptRanges), ("unicode.CaseRanges", laid_unicode_CaseRanges), ("unicode/utf8.first", laid_unicode_utf8_first)], narrowed := true }
def FnIsBranchUptoSaid : Prop := fnIsBranchUptoRow.holds Tryz.pinned (OpenSpec.upto fnIsBranchSpec)

/-- 'laws.FnIsContent', WHERE WHAT IT READS IS OF BULK AT MOST 1048576: true; the input reads as it did. -/
def fnIsContentUptoRow : OpenClaim := { program := "ytbpoljgchbfhpaagreatdoor", sum := "1d64a2771cf85b732123d184c2c1dc425fa1ae0529b82354deeba25ce3dceed0", func := "pub-trackway/laws.FnIsContent", spec := "fnIsContent", inPlace := ["internal/abi.NoEscape", "internal/bytealg.MakeNoZero"], unfollowed := true, recurses := true, named := ["unicode/utf8.first", "unicode/utf8.acceptRanges", "unicode.CaseRanges"], apart := false, laid := [("unicode/utf8.acceptRanges", laid_unicode_utf8_acceptRanges), ("unicode.CaseRanges", laid_unicode_CaseRanges), ("unicode/utf8.first", laid_unicode_utf8_first)], narrowed := true }
def FnIsContentUptoSaid : Prop := fnIsContentUptoRow.holds Tryz.pinned (OpenSpec.upto fnIsContentSpec)

/-- 'laws.FnIsContentData', WHERE WHAT IT READS IS OF BULK AT MOST 1048576: true; the input reads as it did. -/
def fnIsContentDataUptoRow : OpenClaim := { program := "ytbpoljgchbfhpaagreatdoor", sum := "1d64a2771cf85b732123d184c2c1dc425fa1ae0529b82354deeba25ce3dceed0", func := "pub-trackway/laws.FnIsContentData", spec := "fnIsContentData", inPlace := ["internal/abi.NoEscape", "internal/bytealg.MakeNoZero"], unfollowed := true, recurses := true, named := ["unicode/utf8.first", "unicode/utf8.acceptRanges", "unicode.CaseRanges"], apart := false, laid := [("unicode/utf8.acceptRanges", laid_unicode_utf8_acceptRanges), ("unicode.CaseRanges", laid_unicode_CaseRanges), ("unicode/utf8.first", laid_unicode_utf8_first)], narrowed := true }
def FnIsContentDataUptoSaid : Prop := fnIsContentDataUptoRow.holds Tryz.pinned (OpenSpec.upto fnIsContentDataSpec)

/-- 'laws.FnKind', WHERE WHAT IT READS IS OF BULK AT MOST 1048576: true; the input reads as it did. -/
def fnKindUptoRow : OpenClaim := { program := "ytbpoljgchbfhpaagreatdoor", sum := "1d64a2771cf85b732123d184c2c1dc425fa1ae0529b82354deeba25ce3dceed0", func := "pub-trackway/laws.FnKind", spec := "fnKind", inPlace := ["internal/abi.NoEscape", "internal/bytealg.MakeNoZero"], unfollowed := true, recurses := true, named := ["unicode/utf8.first", "unicode/utf8.acceptRanges", "unicode.CaseRanges"], apart := false, laid := [("unicode/utf8.acceptRanges", laid_unicode_utf8_acceptRanges), ("unicode.CaseRanges", laid_unicode_CaseRanges), ("unicode/utf8.first", laid_unicode_utf8_first)], narrowed := true }
def FnKindUptoSaid : Prop := fnKindUptoRow.holds Tryz.pinned (OpenSpec.upto fnKindSpec)

/-- 'laws.FnLang', WHERE WHAT IT READS IS OF BULK AT MOST 1048576: true; the input reads as it did. -/
def fnLangUptoRow : OpenClaim := { program := "ytbpoljgchbfhpaagreatdoor", sum := "1d64a2771cf85b732123d184c2c1dc425fa1ae0529b82354deeba25ce3dceed0", func := "pub-trackway/laws.FnLang", spec := "fnLang", inPlace := ["internal/abi.NoEscape", "internal/bytealg.MakeNoZero"], unfollowed := true, recurses := true, named := ["unicode/utf8.first", "unicode/utf8.acceptRanges", "unicode.CaseRanges"], apart := false, laid := [("unicode/utf8.acceptRanges", laid_unicode_utf8_acceptRanges), ("unicode.CaseRanges", laid_unicode_CaseRanges), ("unicode/utf8.first", laid_unicode_utf8_first)], narrowed := true }
def FnLangUptoSaid : Prop := fnLangUptoRow.holds Tryz.pinned (OpenSpec.upto fnLangSpec)

/-- 'laws.FnLangs', WHERE WHAT IT READS IS OF BULK AT MOST 1048576: true; the input reads as it did. -/
def fnLangsUptoRow : OpenClaim := { program := "ytbpoljgchbfhpaagreatdoor", sum := "1d64a2771cf85b732123d184c2c1dc425fa1ae0529b82354deeba25ce3dceed0", func := "pub-trackway/laws.FnLangs", spec := "fnLangs", inPlace := ["internal/abi.NoEscape", "internal/bytealg.MakeNoZero"], unfollowed := true, recurses := true, named := ["unicode/utf8.first", "unicode/utf8.acceptRanges", "unicode.CaseRanges"], apart := false, laid := [("unicode/utf8.acceptRanges", laid_unicode_utf8_acceptRanges), ("unicode.CaseRanges", laid_unicode_CaseRanges), ("unicode/utf8.first", laid_unicode_utf8_first)], narrowed := true }
def FnLangsUptoSaid : Prop := fnLangsUptoRow.holds Tryz.pinned (OpenSpec.upto fnLangsSpec)

/-- 'laws.FnNameNoExt', WHERE WHAT IT READS IS OF BULK AT MOST 1048576: true; the input reads as it did. -/
def fnNameNoExtUptoRow : OpenClaim := { program := "ytbpoljgchbfhpaagreatdoor", sum := "1d64a2771cf85b732123d184c2c1dc425fa1ae0529b82354deeba25ce3dceed0", func := "pub-trackway/laws.FnNameNoExt", spec := "fnNameNoExt", inPlace := ["internal/abi.NoEscape", "internal/bytealg.MakeNoZero"], unfollowed := true, recurses := true, named := ["unicode/utf8.first", "unicode/utf8.acceptRanges", "unicode.CaseRanges"], apart := false, laid := [("unicode/utf8.acceptRanges", laid_unicode_utf8_acceptRanges), ("unicode.CaseRanges", laid_unicode_CaseRanges), ("unicode/utf8.first", laid_unicode_utf8_first)], narrowed := true }
def FnNameNoExtUptoSaid : Prop := fnNameNoExtUptoRow.holds Tryz.pinned (OpenSpec.upto fnNameNoExtSpec)

/-- 'laws.FnNameNoIdentifier', WHERE WHAT IT READS IS OF BULK AT MOST 1048576: true; the input reads as it did. -/
def fnNameNoIdentifierUptoRow : OpenClaim := { program := "ytbpoljgchbfhpaagreatdoor", sum := "1d64a2771cf85b732123d184c2c1dc425fa1ae0529b82354deeba25ce3dceed0", func := "pub-trackway/laws.FnNameNoIdentifier", spec := "fnNameNoIdentifier", inPlace := ["internal/abi.NoEscape", "internal/bytealg.MakeNoZero"], unfollowed := true, recurses := true, named := ["unicode/utf8.first", "unicode/utf8.acceptRanges", "unicode.CaseRanges"], apart := false, laid := [("unicode/utf8.acceptRanges", laid_unicode_utf8_acceptRanges), ("unicode.CaseRanges", laid_unicode_CaseRanges), ("unicode/utf8.first", laid_unicode_utf8_first)], narrowed := true }
def FnNameNoIdentifierUptoSaid : Prop := fnNameNoIdentifierUptoRow.holds Tryz.pinned (OpenSpec.upto fnNameNoIdentifierSpec)

/-- 'laws.FnPath', WHERE WHAT IT READS IS OF BULK AT MOST 1048576: true; the input reads as it did. -/
def fnPathUptoRow : OpenClaim := { program := "ytbpoljgchbfhpaagreatdoor", sum := "1d64a2771cf85b732123d184c2c1dc425fa1ae0529b82354deeba25ce3dceed0", func := "pub-trackway/laws.FnPath", spec := "fnPath", inPlace := ["internal/abi.NoEscape", "internal/bytealg.MakeNoZero"], unfollowed := true, recurses := true, named := ["unicode/utf8.first", "unicode/utf8.acceptRanges", "unicode.CaseRanges"], apart := false, laid := [("unicode/utf8.acceptRanges", laid_unicode_utf8_acceptRanges), ("unicode.CaseRanges", laid_unicode_CaseRanges), ("unicode/utf8.first", laid_unicode_utf8_first)], narrowed := true }
def FnPathUptoSaid : Prop := fnPathUptoRow.holds Tryz.pinned (OpenSpec.upto fnPathSpec)

/-- 'laws.FnPathNoIdentifier', WHERE WHAT IT READS IS OF BULK AT MOST 1048576: true; the input reads as it did. -/
def fnPathNoIdentifierUptoRow : OpenClaim := { program := "ytbpoljgchbfhpaagreatdoor", sum := "1d64a2771cf85b732123d184c2c1dc425fa1ae0529b82354deeba25ce3dceed0", func := "pub-trackway/laws.FnPathNoIdentifier", spec := "fnPathNoIdentifier", inPlace := ["internal/abi.NoEscape", "internal/bytealg.MakeNoZero"], unfollowed := true, recurses := true, named := ["unicode/utf8.first", "unicode/utf8.acceptRanges", "unicode.CaseRanges"], apart := false, laid := [("unicode/utf8.acceptRanges", laid_unicode_utf8_acceptRanges), ("unicode.CaseRanges", laid_unicode_CaseRanges), ("unicode/utf8.first", laid_unicode_utf8_first)], narrowed := true }
def FnPathNoIdentifierUptoSaid : Prop := fnPathNoIdentifierUptoRow.holds Tryz.pinned (OpenSpec.upto fnPathNoIdentifierSpec)

/-- 'laws.FnSection', WHERE WHAT IT READS IS OF BULK AT MOST 1048576: true; the input reads as it did. -/
def fnSectionUptoRow : OpenClaim := { program := "ytbpoljgchbfhpaagreatdoor", sum := "1d64a2771cf85b732123d184c2c1dc425fa1ae0529b82354deeba25ce3dceed0", func := "pub-trackway/laws.FnSection", spec := "fnSection", inPlace := ["internal/abi.NoEscape", "internal/bytealg.MakeNoZero"], unfollowed := true, recurses := true, named := ["unicode/utf8.first", "unicode/utf8.acceptRanges", "unicode.CaseRanges"], apart := false, laid := [("unicode/utf8.acceptRanges", laid_unicode_utf8_acceptRanges), ("unicode.CaseRanges", laid_unicode_CaseRanges), ("unicode/utf8.first", laid_unicode_utf8_first)], narrowed := true }
def FnSectionUptoSaid : Prop := fnSectionUptoRow.holds Tryz.pinned (OpenSpec.upto fnSectionSpec)

/-- 'laws.FnUnknown', WHERE WHAT IT READS IS OF BULK AT MOST 1048576: true; the input reads as it did. -/
def fnUnknownUptoRow : OpenClaim := { program := "ytbpoljgchbfhpaagreatdoor", sum := "1d64a2771cf85b732123d184c2c1dc425fa1ae0529b82354deeba25ce3dceed0", func := "pub-trackway/laws.FnUnknown", spec := "fnUnknown", inPlace := ["internal/abi.NoEscape", "internal/bytealg.MakeNoZero"], unfollowed := true, recurses := true, named := ["unicode/utf8.first", "unicode/utf8.acceptRanges", "unicode.CaseRanges"], apart := false, laid := [("unicode/utf8.acceptRanges", laid_unicode_utf8_acceptRanges), ("unicode.CaseRanges", laid_unicode_CaseRanges), ("unicode/utf8.first", laid_unicode_utf8_first)], narrowed := true }
def FnUnknownUptoSaid : Prop := fnUnknownUptoRow.holds Tryz.pinned (OpenSpec.upto fnUnknownSpec)

end Rows
end Go.Proofs.YtbpoljgchbfhpaaGreatDoor
