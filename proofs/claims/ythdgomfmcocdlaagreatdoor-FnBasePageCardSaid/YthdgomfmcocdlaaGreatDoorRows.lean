/-
  NARROWER THAN 'FOR EVERY INPUT', by the rows' own cells (each row's printed sentence says how): FnBase: laid · FnBasePage: laid · FnBuiltCustom: laid · FnBaseReTypedBuilt: laid · FnBuiltData: laid · FnBuiltLayout: laid · FnBuiltPage: laid · FnBuiltSorts: laid · FnContainer: laid · FnContainerLast: laid · FnContentTypes: laid · FnBaseRelBuilt: laid.
  DERIVED. THE GIVEN ROWS OF THIS SEAT. 12 by the template 'for every input the law returns true; each argument reads behind the call as it read before'; 0 by the template 'total and deterministic' (their statements: YthdgomfmcocdlaaGreatDoorTotals.lean).
  GIVEN WITH THE SEED: the statements are not yours to turn. If you find one false, say at which input.
  Laid BY PROGRAM, IN A SANDBOX (cutbox-rows.mjs): the forced cells as the released guide's own fill.sh prints them over the translation 78a74b1e26d360af… (all of the seat's roots in one cut). By AI agents, Wed Nov 11 2026. No macro, syntax, notation, axiom, sorry.
-/
import Derived.Test.YthdgomfmcocdlaaGreatDoorChecked
import GoSem.PinnedTables
import GoSem.Claim
import GoSem.ClaimJoined
import GoSem.ClaimMapViews
import Derived.JoinedTies
import Derived.KernelRfl
namespace Go.Proofs.YthdgomfmcocdlaaGreatDoor
/- THE CELL 'sum', in the pinned program and in every row, IS THE sha256 OF THE DUMP (.gsa) THAT YthdgomfmcocdlaaGreatDoorProg.lean LOADS. Nothing in Lean hashes anything: it is a label: what it is worth is what the hold of that sum in a sandbox is worth. -/
noncomputable def Tryz.pinned : Pinned := { name := "ythdgomfmcocdlaagreatdoor", sum := "78a74b1e26d360af6680a3b123a5d7418b675c5e2ec882ac5ea60ca8e7b99b40", checked := Tryz.checked }
namespace Rows
def none {H : Type} : Left H := { results := [], args := [] }

/- WHAT THE LISTED PACKAGE-LEVEL VARIABLES READ AS WHEN THE CALL BEGINS. Each datum BY PROGRAM (the guide's laid-datum.mjs) off the statement by which the dump's own 'gosem.cut.vars' lays the variable. In a bare row this is a premise. The card (YthdgomfmcocdlaaGreatDoorCards.lean) ties it to the program's text. -/
def laid_unicode_utf8_acceptRanges {H : Type} : DataW H := .agg [.agg [.lit (.int .u8 128), .lit (.int .u8 191)], .agg [.lit (.int .u8 160), .lit (.int .u8 191)], .agg [.lit (.int .u8 128), .lit (.int .u8 159)], .agg [.lit (.int .u8 144), .lit (.int .u8 191)], .agg [.lit (.int .u8 128), .lit (.int .u8 143)], .agg [.lit (.int .u8 0), .lit (.int .u8 0)], .agg [.lit (.int .u8 0), .lit (.int .u8 0)], .agg [.lit (.int .u8 0), .lit (.int .u8 0)], .agg [.lit (.int .u8 0), .lit (.int .u8 0)], .agg [.lit (.int .u8 0), .lit (.int .u8 0)], .agg [.lit (.int .u8 0), .lit (.int .u8 0)], .agg [.lit (.int .u8 0), .lit (.int .u8 0)], .agg [.lit (.int .u8 0), .lit (.int .u8 0)], .agg [.lit (.int .u8 0), .lit (.int .u8 0)], .agg [.lit (.int .u8 0), .lit (.int .u8 0)], .agg [.lit (.int .u8 0), .lit (.int .u8 0)]]
/-- One of Go's own tables, pinned by name: the form's constant. -/
def laid_unicode_CaseRanges : DataW Unit := Go.Pinned.caseRanges
/-- One of Go's own tables, pinned by name: the form's constant. -/
def laid_unicode_utf8_first : DataW Unit := Go.Pinned.utf8First

/-- 'laws.FnBase': WHATEVER THE INPUT: true; the input reads as it did. -/
def fnBaseSpec : ChangeSpec := { name := "fnBase", fn := fun _ => fun
  | [d1, d2, d3] => { results := [.lit (.bool true)], args := [d1, d2, d3] }
  | _ => none }
def fnBaseRow : OpenClaim := { program := "ythdgomfmcocdlaagreatdoor", sum := "78a74b1e26d360af6680a3b123a5d7418b675c5e2ec882ac5ea60ca8e7b99b40", func := "pub-trackway/laws.FnBase", spec := "fnBase", inPlace := ["internal/abi.NoEscape", "internal/bytealg.MakeNoZero"], unfollowed := true, recurses := true, named := ["unicode/utf8.first", "unicode/utf8.acceptRanges", "unicode.CaseRanges"], apart := false, laid := [("unicode/utf8.acceptRanges", laid_unicode_utf8_acceptRanges), ("unicode.CaseRanges", laid_unicode_CaseRanges), ("unicode/utf8.first", laid_unicode_utf8_first)] }
def FnBaseSaid : Prop := fnBaseRow.holds Tryz.pinned (OpenSpec.ofChange fnBaseSpec)

/-- ITS FALSE NEIGHBOUR: 'it returns false'. Refute it at one input. -/
def fnBaseWrong : ChangeSpec := { name := "fnBase", fn := fun _ => fun
  | [d1, d2, d3] => { results := [.lit (.bool false)], args := [d1, d2, d3] }
  | _ => none }
def FnBaseWrongFalsely : Prop := fnBaseRow.holds Tryz.pinned (OpenSpec.ofChange fnBaseWrong)

/-- 'laws.FnBasePage': WHATEVER THE INPUT: true; the input reads as it did. -/
def fnBasePageSpec : ChangeSpec := { name := "fnBasePage", fn := fun _ => fun
  | [d1, d2, d3] => { results := [.lit (.bool true)], args := [d1, d2, d3] }
  | _ => none }
def fnBasePageRow : OpenClaim := { program := "ythdgomfmcocdlaagreatdoor", sum := "78a74b1e26d360af6680a3b123a5d7418b675c5e2ec882ac5ea60ca8e7b99b40", func := "pub-trackway/laws.FnBasePage", spec := "fnBasePage", inPlace := ["internal/abi.NoEscape", "internal/bytealg.MakeNoZero"], unfollowed := true, recurses := true, named := ["unicode/utf8.first", "unicode/utf8.acceptRanges", "unicode.CaseRanges"], apart := false, laid := [("unicode/utf8.acceptRanges", laid_unicode_utf8_acceptRanges), ("unicode.CaseRanges", laid_unicode_CaseRanges), ("unicode/utf8.first", laid_unicode_utf8_first)] }
def FnBasePageSaid : Prop := fnBasePageRow.holds Tryz.pinned (OpenSpec.ofChange fnBasePageSpec)

/-- ITS FALSE NEIGHBOUR: 'it returns false'. Refute it at one input. -/
def fnBasePageWrong : ChangeSpec := { name := "fnBasePage", fn := fun _ => fun
  | [d1, d2, d3] => { results := [.lit (.bool false)], args := [d1, d2, d3] }
  | _ => none }
def FnBasePageWrongFalsely : Prop := fnBasePageRow.holds Tryz.pinned (OpenSpec.ofChange fnBasePageWrong)

/-- 'laws.FnBuiltCustom': WHATEVER THE INPUT: true; the input reads as it did. -/
def fnBuiltCustomSpec : ChangeSpec := { name := "fnBuiltCustom", fn := fun _ => fun
  | [d1, d2, d3, d4, d5] => { results := [.lit (.bool true)], args := [d1, d2, d3, d4, d5] }
  | _ => none }
def fnBuiltCustomRow : OpenClaim := { program := "ythdgomfmcocdlaagreatdoor", sum := "78a74b1e26d360af6680a3b123a5d7418b675c5e2ec882ac5ea60ca8e7b99b40", func := "pub-trackway/laws.FnBuiltCustom", spec := "fnBuiltCustom", inPlace := ["internal/abi.NoEscape", "internal/bytealg.MakeNoZero"], unfollowed := true, recurses := true, named := ["unicode/utf8.first", "unicode/utf8.acceptRanges", "unicode.CaseRanges"], apart := false, laid := [("unicode/utf8.acceptRanges", laid_unicode_utf8_acceptRanges), ("unicode.CaseRanges", laid_unicode_CaseRanges), ("unicode/utf8.first", laid_unicode_utf8_first)] }
def FnBuiltCustomSaid : Prop := fnBuiltCustomRow.holds Tryz.pinned (OpenSpec.ofChange fnBuiltCustomSpec)

/-- ITS FALSE NEIGHBOUR: 'it returns false'. Refute it at one input. -/
def fnBuiltCustomWrong : ChangeSpec := { name := "fnBuiltCustom", fn := fun _ => fun
  | [d1, d2, d3, d4, d5] => { results := [.lit (.bool false)], args := [d1, d2, d3, d4, d5] }
  | _ => none }
def FnBuiltCustomWrongFalsely : Prop := fnBuiltCustomRow.holds Tryz.pinned (OpenSpec.ofChange fnBuiltCustomWrong)

/-- 'laws.FnBaseReTypedBuilt': WHATEVER THE INPUT: true; the input reads as it did. -/
def fnBaseReTypedBuiltSpec : ChangeSpec := { name := "fnBaseReTypedBuilt", fn := fun _ => fun
  | [d1, d2, d3, d4, d5] => { results := [.lit (.bool true)], args := [d1, d2, d3, d4, d5] }
  | _ => none }
def fnBaseReTypedBuiltRow : OpenClaim := { program := "ythdgomfmcocdlaagreatdoor", sum := "78a74b1e26d360af6680a3b123a5d7418b675c5e2ec882ac5ea60ca8e7b99b40", func := "pub-trackway/laws.FnBaseReTypedBuilt", spec := "fnBaseReTypedBuilt", inPlace := ["internal/abi.NoEscape", "internal/bytealg.MakeNoZero"], unfollowed := true, recurses := true, named := ["unicode/utf8.first", "unicode/utf8.acceptRanges", "unicode.CaseRanges"], apart := false, laid := [("unicode/utf8.acceptRanges", laid_unicode_utf8_acceptRanges), ("unicode.CaseRanges", laid_unicode_CaseRanges), ("unicode/utf8.first", laid_unicode_utf8_first)] }
def FnBaseReTypedBuiltSaid : Prop := fnBaseReTypedBuiltRow.holds Tryz.pinned (OpenSpec.ofChange fnBaseReTypedBuiltSpec)

/-- ITS FALSE NEIGHBOUR: 'it returns false'. Refute it at one input. -/
def fnBaseReTypedBuiltWrong : ChangeSpec := { name := "fnBaseReTypedBuilt", fn := fun _ => fun
  | [d1, d2, d3, d4, d5] => { results := [.lit (.bool false)], args := [d1, d2, d3, d4, d5] }
  | _ => none }
def FnBaseReTypedBuiltWrongFalsely : Prop := fnBaseReTypedBuiltRow.holds Tryz.pinned (OpenSpec.ofChange fnBaseReTypedBuiltWrong)

/-- 'laws.FnBuiltData': WHATEVER THE INPUT: true; the input reads as it did. -/
def fnBuiltDataSpec : ChangeSpec := { name := "fnBuiltData", fn := fun _ => fun
  | [d1, d2, d3] => { results := [.lit (.bool true)], args := [d1, d2, d3] }
  | _ => none }
def fnBuiltDataRow : OpenClaim := { program := "ythdgomfmcocdlaagreatdoor", sum := "78a74b1e26d360af6680a3b123a5d7418b675c5e2ec882ac5ea60ca8e7b99b40", func := "pub-trackway/laws.FnBuiltData", spec := "fnBuiltData", inPlace := ["internal/abi.NoEscape", "internal/bytealg.MakeNoZero"], unfollowed := true, recurses := true, named := ["unicode/utf8.first", "unicode/utf8.acceptRanges", "unicode.CaseRanges"], apart := false, laid := [("unicode/utf8.acceptRanges", laid_unicode_utf8_acceptRanges), ("unicode.CaseRanges", laid_unicode_CaseRanges), ("unicode/utf8.first", laid_unicode_utf8_first)] }
def FnBuiltDataSaid : Prop := fnBuiltDataRow.holds Tryz.pinned (OpenSpec.ofChange fnBuiltDataSpec)

/-- ITS FALSE NEIGHBOUR: 'it returns false'. Refute it at one input. -/
def fnBuiltDataWrong : ChangeSpec := { name := "fnBuiltData", fn := fun _ => fun
  | [d1, d2, d3] => { results := [.lit (.bool false)], args := [d1, d2, d3] }
  | _ => none }
def FnBuiltDataWrongFalsely : Prop := fnBuiltDataRow.holds Tryz.pinned (OpenSpec.ofChange fnBuiltDataWrong)

/-- 'laws.FnBuiltLayout': WHATEVER THE INPUT: true; the input reads as it did. -/
def fnBuiltLayoutSpec : ChangeSpec := { name := "fnBuiltLayout", fn := fun _ => fun
  | [d1, d2, d3, d4, d5] => { results := [.lit (.bool true)], args := [d1, d2, d3, d4, d5] }
  | _ => none }
def fnBuiltLayoutRow : OpenClaim := { program := "ythdgomfmcocdlaagreatdoor", sum := "78a74b1e26d360af6680a3b123a5d7418b675c5e2ec882ac5ea60ca8e7b99b40", func := "pub-trackway/laws.FnBuiltLayout", spec := "fnBuiltLayout", inPlace := ["internal/abi.NoEscape", "internal/bytealg.MakeNoZero"], unfollowed := true, recurses := true, named := ["unicode/utf8.first", "unicode/utf8.acceptRanges", "unicode.CaseRanges"], apart := false, laid := [("unicode/utf8.acceptRanges", laid_unicode_utf8_acceptRanges), ("unicode.CaseRanges", laid_unicode_CaseRanges), ("unicode/utf8.first", laid_unicode_utf8_first)] }
def FnBuiltLayoutSaid : Prop := fnBuiltLayoutRow.holds Tryz.pinned (OpenSpec.ofChange fnBuiltLayoutSpec)

/-- ITS FALSE NEIGHBOUR: 'it returns false'. Refute it at one input. -/
def fnBuiltLayoutWrong : ChangeSpec := { name := "fnBuiltLayout", fn := fun _ => fun
  | [d1, d2, d3, d4, d5] => { results := [.lit (.bool false)], args := [d1, d2, d3, d4, d5] }
  | _ => none }
def FnBuiltLayoutWrongFalsely : Prop := fnBuiltLayoutRow.holds Tryz.pinned (OpenSpec.ofChange fnBuiltLayoutWrong)

/-- 'laws.FnBuiltPage': WHATEVER THE INPUT: true; the input reads as it did. -/
def fnBuiltPageSpec : ChangeSpec := { name := "fnBuiltPage", fn := fun _ => fun
  | [d1, d2, d3, d4, d5] => { results := [.lit (.bool true)], args := [d1, d2, d3, d4, d5] }
  | _ => none }
def fnBuiltPageRow : OpenClaim := { program := "ythdgomfmcocdlaagreatdoor", sum := "78a74b1e26d360af6680a3b123a5d7418b675c5e2ec882ac5ea60ca8e7b99b40", func := "pub-trackway/laws.FnBuiltPage", spec := "fnBuiltPage", inPlace := ["internal/abi.NoEscape", "internal/bytealg.MakeNoZero"], unfollowed := true, recurses := true, named := ["unicode/utf8.first", "unicode/utf8.acceptRanges", "unicode.CaseRanges"], apart := false, laid := [("unicode/utf8.acceptRanges", laid_unicode_utf8_acceptRanges), ("unicode.CaseRanges", laid_unicode_CaseRanges), ("unicode/utf8.first", laid_unicode_utf8_first)] }
def FnBuiltPageSaid : Prop := fnBuiltPageRow.holds Tryz.pinned (OpenSpec.ofChange fnBuiltPageSpec)

/-- ITS FALSE NEIGHBOUR: 'it returns false'. Refute it at one input. -/
def fnBuiltPageWrong : ChangeSpec := { name := "fnBuiltPage", fn := fun _ => fun
  | [d1, d2, d3, d4, d5] => { results := [.lit (.bool false)], args := [d1, d2, d3, d4, d5] }
  | _ => none }
def FnBuiltPageWrongFalsely : Prop := fnBuiltPageRow.holds Tryz.pinned (OpenSpec.ofChange fnBuiltPageWrong)

/-- 'laws.FnBuiltSorts': WHATEVER THE INPUT: true; the input reads as it did. -/
def fnBuiltSortsSpec : ChangeSpec := { name := "fnBuiltSorts", fn := fun _ => fun
  | [d1, d2, d3, d4, d5] => { results := [.lit (.bool true)], args := [d1, d2, d3, d4, d5] }
  | _ => none }
def fnBuiltSortsRow : OpenClaim := { program := "ythdgomfmcocdlaagreatdoor", sum := "78a74b1e26d360af6680a3b123a5d7418b675c5e2ec882ac5ea60ca8e7b99b40", func := "pub-trackway/laws.FnBuiltSorts", spec := "fnBuiltSorts", inPlace := ["internal/abi.NoEscape", "internal/bytealg.MakeNoZero"], unfollowed := true, recurses := true, named := ["unicode/utf8.first", "unicode/utf8.acceptRanges", "unicode.CaseRanges"], apart := false, laid := [("unicode/utf8.acceptRanges", laid_unicode_utf8_acceptRanges), ("unicode.CaseRanges", laid_unicode_CaseRanges), ("unicode/utf8.first", laid_unicode_utf8_first)] }
def FnBuiltSortsSaid : Prop := fnBuiltSortsRow.holds Tryz.pinned (OpenSpec.ofChange fnBuiltSortsSpec)

/-- ITS FALSE NEIGHBOUR: 'it returns false'. Refute it at one input. -/
def fnBuiltSortsWrong : ChangeSpec := { name := "fnBuiltSorts", fn := fun _ => fun
  | [d1, d2, d3, d4, d5] => { results := [.lit (.bool false)], args := [d1, d2, d3, d4, d5] }
  | _ => none }
def FnBuiltSortsWrongFalsely : Prop := fnBuiltSortsRow.holds Tryz.pinned (OpenSpec.ofChange fnBuiltSortsWrong)

/-- 'laws.FnContainer': WHATEVER THE INPUT: true; the input reads as it did. -/
def fnContainerSpec : ChangeSpec := { name := "fnContainer", fn := fun _ => fun
  | [d1, d2, d3] => { results := [.lit (.bool true)], args := [d1, d2, d3] }
  | _ => none }
def fnContainerRow : OpenClaim := { program := "ythdgomfmcocdlaagreatdoor", sum := "78a74b1e26d360af6680a3b123a5d7418b675c5e2ec882ac5ea60ca8e7b99b40", func := "pub-trackway/laws.FnContainer", spec := "fnContainer", inPlace := ["internal/abi.NoEscape", "internal/bytealg.MakeNoZero"], unfollowed := true, recurses := true, named := ["unicode/utf8.first", "unicode/utf8.acceptRanges", "unicode.CaseRanges"], apart := false, laid := [("unicode/utf8.acceptRanges", laid_unicode_utf8_acceptRanges), ("unicode.CaseRanges", laid_unicode_CaseRanges), ("unicode/utf8.first", laid_unicode_utf8_first)] }
def FnContainerSaid : Prop := fnContainerRow.holds Tryz.pinned (OpenSpec.ofChange fnContainerSpec)

/-- ITS FALSE NEIGHBOUR: 'it returns false'. Refute it at one input. -/
def fnContainerWrong : ChangeSpec := { name := "fnContainer", fn := fun _ => fun
  | [d1, d2, d3] => { results := [.lit (.bool false)], args := [d1, d2, d3] }
  | _ => none }
def FnContainerWrongFalsely : Prop := fnContainerRow.holds Tryz.pinned (OpenSpec.ofChange fnContainerWrong)

/-- 'laws.FnContainerLast': WHATEVER THE INPUT: true; the input reads as it did. -/
def fnContainerLastSpec : ChangeSpec := { name := "fnContainerLast", fn := fun _ => fun
  | [d1, d2, d3] => { results := [.lit (.bool true)], args := [d1, d2, d3] }
  | _ => none }
def fnContainerLastRow : OpenClaim := { program := "ythdgomfmcocdlaagreatdoor", sum := "78a74b1e26d360af6680a3b123a5d7418b675c5e2ec882ac5ea60ca8e7b99b40", func := "pub-trackway/laws.FnContainerLast", spec := "fnContainerLast", inPlace := ["internal/abi.NoEscape", "internal/bytealg.MakeNoZero"], unfollowed := true, recurses := true, named := ["unicode/utf8.first", "unicode/utf8.acceptRanges", "unicode.CaseRanges"], apart := false, laid := [("unicode/utf8.acceptRanges", laid_unicode_utf8_acceptRanges), ("unicode.CaseRanges", laid_unicode_CaseRanges), ("unicode/utf8.first", laid_unicode_utf8_first)] }
def FnContainerLastSaid : Prop := fnContainerLastRow.holds Tryz.pinned (OpenSpec.ofChange fnContainerLastSpec)

/-- ITS FALSE NEIGHBOUR: 'it returns false'. Refute it at one input. -/
def fnContainerLastWrong : ChangeSpec := { name := "fnContainerLast", fn := fun _ => fun
  | [d1, d2, d3] => { results := [.lit (.bool false)], args := [d1, d2, d3] }
  | _ => none }
def FnContainerLastWrongFalsely : Prop := fnContainerLastRow.holds Tryz.pinned (OpenSpec.ofChange fnContainerLastWrong)

/-- 'laws.FnContentTypes': WHATEVER THE INPUT: true; the input reads as it did. -/
def fnContentTypesSpec : ChangeSpec := { name := "fnContentTypes", fn := fun _ => fun
  | [d1, d2, d3] => { results := [.lit (.bool true)], args := [d1, d2, d3] }
  | _ => none }
def fnContentTypesRow : OpenClaim := { program := "ythdgomfmcocdlaagreatdoor", sum := "78a74b1e26d360af6680a3b123a5d7418b675c5e2ec882ac5ea60ca8e7b99b40", func := "pub-trackway/laws.FnContentTypes", spec := "fnContentTypes", inPlace := ["internal/abi.NoEscape", "internal/bytealg.MakeNoZero"], unfollowed := true, recurses := true, named := ["unicode/utf8.first", "unicode/utf8.acceptRanges", "unicode.CaseRanges"], apart := false, laid := [("unicode/utf8.acceptRanges", laid_unicode_utf8_acceptRanges), ("unicode.CaseRanges", laid_unicode_CaseRanges), ("unicode/utf8.first", laid_unicode_utf8_first)] }
def FnContentTypesSaid : Prop := fnContentTypesRow.holds Tryz.pinned (OpenSpec.ofChange fnContentTypesSpec)

/-- ITS FALSE NEIGHBOUR: 'it returns false'. Refute it at one input. -/
def fnContentTypesWrong : ChangeSpec := { name := "fnContentTypes", fn := fun _ => fun
  | [d1, d2, d3] => { results := [.lit (.bool false)], args := [d1, d2, d3] }
  | _ => none }
def FnContentTypesWrongFalsely : Prop := fnContentTypesRow.holds Tryz.pinned (OpenSpec.ofChange fnContentTypesWrong)

/-- 'laws.FnBaseRelBuilt': WHATEVER THE INPUT: true; the input reads as it did. -/
def fnBaseRelBuiltSpec : ChangeSpec := { name := "fnBaseRelBuilt", fn := fun _ => fun
  | [d1, d2, d3, d4, d5] => { results := [.lit (.bool true)], args := [d1, d2, d3, d4, d5] }
  | _ => none }
def fnBaseRelBuiltRow : OpenClaim := { program := "ythdgomfmcocdlaagreatdoor", sum := "78a74b1e26d360af6680a3b123a5d7418b675c5e2ec882ac5ea60ca8e7b99b40", func := "pub-trackway/laws.FnBaseRelBuilt", spec := "fnBaseRelBuilt", inPlace := ["internal/abi.NoEscape", "internal/bytealg.MakeNoZero"], unfollowed := true, recurses := true, named := ["unicode/utf8.first", "unicode/utf8.acceptRanges", "unicode.CaseRanges"], apart := false, laid := [("unicode/utf8.acceptRanges", laid_unicode_utf8_acceptRanges), ("unicode.CaseRanges", laid_unicode_CaseRanges), ("unicode/utf8.first", laid_unicode_utf8_first)] }
def FnBaseRelBuiltSaid : Prop := fnBaseRelBuiltRow.holds Tryz.pinned (OpenSpec.ofChange fnBaseRelBuiltSpec)

/-- ITS FALSE NEIGHBOUR: 'it returns false'. Refute it at one input. -/
def fnBaseRelBuiltWrong : ChangeSpec := { name := "fnBaseRelBuilt", fn := fun _ => fun
  | [d1, d2, d3, d4, d5] => { results := [.lit (.bool false)], args := [d1, d2, d3, d4, d5] }
  | _ => none }
def FnBaseRelBuiltWrongFalsely : Prop := fnBaseRelBuiltRow.holds Tryz.pinned (OpenSpec.ofChange fnBaseRelBuiltWrong)

/- THE SECOND FORM. 'bulk': how many values and letters a reading holds, each counted each time it is reached (what is shared counts as often as it is met; a slice's spare places count too). A statement '..UptoSaid' is the law's where the arguments, and the package variables that the reading takes, are together of bulk at most 1048576: NARROWER than '..Said'. Prove '..Said' where nothing that the law and all that it calls make is longer than what came in: it says more and counts as full. Else prove '..UptoSaid'. A law counts once. -/
mutual
def uptoBulk {H : Type} : DataW H → Nat
  | .lit (.string bytes) => bytes.length + 1
  | .lit _ => 1
  | .nil => 1
  | .ptr d => uptoBulk d + 1
  | .slice elems spare => uptoBulkAll elems + uptoBulkAll spare + 1
  | .agg parts => uptoBulkAll parts + 1
  | .iface _ d => uptoBulk d + 1
  | .map entries => uptoBulkEntries entries + 1
  | .held _ => 1
def uptoBulkAll {H : Type} : List (DataW H) → Nat
  | [] => 0
  | d :: r => uptoBulk d + uptoBulkAll r
def uptoBulkEntries {H : Type} : List (Lit × DataW H) → Nat
  | [] => 0
  | x :: r => uptoBulkEntry x + uptoBulkEntries r
def uptoBulkEntry {H : Type} : Lit × DataW H → Nat
  | (.string bytes, d) => bytes.length + uptoBulk d + 1
  | (_, d) => uptoBulk d + 1
 end
def uptoSmall : (H : Type) → List (DataW H) → Bool := fun _ ds => decide (uptoBulkAll ds ≤ 1048576)
def OpenSpec.upto (s : _root_.Go.ChangeSpec) : _root_.Go.OpenSpec := { _root_.Go.OpenSpec.ofChange s with cond := some uptoSmall }

/-- 'laws.FnBase', WHERE WHAT IT READS IS OF BULK AT MOST 1048576: true; the input reads as it did. -/
def fnBaseUptoRow : OpenClaim := { program := "ythdgomfmcocdlaagreatdoor", sum := "78a74b1e26d360af6680a3b123a5d7418b675c5e2ec882ac5ea60ca8e7b99b40", func := "pub-trackway/laws.FnBase", spec := "fnBase", inPlace := ["internal/abi.NoEscape", "internal/bytealg.MakeNoZero"], unfollowed := true, recurses := true, named := ["unicode/utf8.first", "unicode/utf8.acceptRanges", "unicode.CaseRanges"], apart := false, laid := [("unicode/utf8.acceptRanges", laid_unicode_utf8_acceptRanges), ("unicode.CaseRanges", laid_unicode_CaseRanges), ("unicode/utf8.first", laid_unicode_utf8_first)], narrowed := true }
def FnBaseUptoSaid : Prop := fnBaseUptoRow.holds Tryz.pinned (OpenSpec.upto fnBaseSpec)

/-- 'laws.FnBasePage', WHERE WHAT IT READS IS OF BULK AT MOST 1048576: true; the input reads as it did. -/
def fnBasePageUptoRow : OpenClaim := { program := "ythdgomfmcocdlaagreatdoor", sum := "78a74b1e26d360af6680a3b123a5d7418b675c5e2ec882ac5ea60ca8e7b99b40", func := "pub-trackway/laws.FnBasePage", spec := "fnBasePage", inPlace := ["internal/abi.NoEscape", "internal/bytealg.MakeNoZero"], unfollowed := true, recurses := true, named := ["unicode/utf8.first", "unicode/utf8.acceptRanges", "unicode.CaseRanges"], apart := false, laid := [("unicode/utf8.acceptRanges", laid_unicode_utf8_acceptRanges), ("unicode.CaseRanges", laid_unicode_CaseRanges), ("unicode/utf8.first", laid_unicode_utf8_first)], narrowed := true }
def FnBasePageUptoSaid : Prop := fnBasePageUptoRow.holds Tryz.pinned (OpenSpec.upto fnBasePageSpec)

/-- 'laws.FnBuiltCustom', WHERE WHAT IT READS IS OF BULK AT MOST 1048576: true; the input reads as it did. -/
def fnBuiltCustomUptoRow : OpenClaim := { program := "ythdgomfmcocdlaagreatdoor", sum := "78a74b1e26d360af6680a3b123a5d7418b675c5e2ec882ac5ea60ca8e7b99b40", func := "pub-trackway/laws.FnBuiltCustom", spec := "fnBuiltCustom", inPlace := ["internal/abi.NoEscape", "internal/bytealg.MakeNoZero"], unfollowed := true, recurses := true, named := ["unicode/utf8.first", "unicode/utf8.acceptRanges", "unicode.CaseRanges"], apart := false, laid := [("unicode/utf8.acceptRanges", laid_unicode_utf8_acceptRanges), ("unicode.CaseRanges", laid_unicode_CaseRanges), ("unicode/utf8.first", laid_unicode_utf8_first)], narrowed := true }
def FnBuiltCustomUptoSaid : Prop := fnBuiltCustomUptoRow.holds Tryz.pinned (OpenSpec.upto fnBuiltCustomSpec)

/-- 'laws.FnBaseReTypedBuilt', WHERE WHAT IT READS IS OF BULK AT MOST 1048576: true; the input reads as it did. -/
def fnBaseReTypedBuiltUptoRow : OpenClaim := { program := "ythdgomfmcocdlaagreatdoor", sum := "78a74b1e26d360af6680a3b123a5d7418b675c5e2ec882ac5ea60ca8e7b99b40", func := "pub-trackway/laws.FnBaseReTypedBuilt", spec := "fnBaseReTypedBuilt", inPlace := ["internal/abi.NoEscape", "internal/bytealg.MakeNoZero"], unfollowed := true, recurses := true, named := ["unicode/utf8.first", "unicode/utf8.acceptRanges", "unicode.CaseRanges"], apart := false, laid := [("unicode/utf8.acceptRanges", laid_unicode_utf8_acceptRanges), ("unicode.CaseRanges", laid_unicode_CaseRanges), ("unicode/utf8.first", laid_unicode_utf8_first)], narrowed := true }
def FnBaseReTypedBuiltUptoSaid : Prop := fnBaseReTypedBuiltUptoRow.holds Tryz.pinned (OpenSpec.upto fnBaseReTypedBuiltSpec)

/-- 'laws.FnBuiltData', WHERE WHAT IT READS IS OF BULK AT MOST 1048576: true; the input reads as it did. -/
def fnBuiltDataUptoRow : OpenClaim := { program := "ythdgomfmcocdlaagreatdoor", sum := "78a74b1e26d360af6680a3b123a5d7418b675c5e2ec882ac5ea60ca8e7b99b40", func := "pub-trackway/laws.FnBuiltData", spec := "fnBuiltData", inPlace := ["internal/abi.NoEscape", "internal/bytealg.MakeNoZero"], unfollowed := true, recurses := true, named := ["unicode/utf8.first", "unicode/utf8.acceptRanges", "unicode.CaseRanges"], apart := false, laid := [("unicode/utf8.acceptRanges", laid_unicode_utf8_acceptRanges), ("unicode.CaseRanges", laid_unicode_CaseRanges), ("unicode/utf8.first", laid_unicode_utf8_first)], narrowed := true }
def FnBuiltDataUptoSaid : Prop := fnBuiltDataUptoRow.holds Tryz.pinned (OpenSpec.upto fnBuiltDataSpec)

/-- 'laws.FnBuiltLayout', WHERE WHAT IT READS IS OF BULK AT MOST 1048576: true; the input reads as it did. -/
def fnBuiltLayoutUptoRow : OpenClaim := { program := "ythdgomfmcocdlaagreatdoor", sum := "78a74b1e26d360af6680a3b123a5d7418b675c5e2ec882ac5ea60ca8e7b99b40", func := "pub-trackway/laws.FnBuiltLayout", spec := "fnBuiltLayout", inPlace := ["internal/abi.NoEscape", "internal/bytealg.MakeNoZero"], unfollowed := true, recurses := true, named := ["unicode/utf8.first", "unicode/utf8.acceptRanges", "unicode.CaseRanges"], apart := false, laid := [("unicode/utf8.acceptRanges", laid_unicode_utf8_acceptRanges), ("unicode.CaseRanges", laid_unicode_CaseRanges), ("unicode/utf8.first", laid_unicode_utf8_first)], narrowed := true }
def FnBuiltLayoutUptoSaid : Prop := fnBuiltLayoutUptoRow.holds Tryz.pinned (OpenSpec.upto fnBuiltLayoutSpec)

/-- 'laws.FnBuiltPage', WHERE WHAT IT READS IS OF BULK AT MOST 1048576: true; the input reads as it did. -/
def fnBuiltPageUptoRow : OpenClaim := { program := "ythdgomfmcocdlaagreatdoor", sum := "78a74b1e26d360af6680a3b123a5d7418b675c5e2ec882ac5ea60ca8e7b99b40", func := "pub-trackway/laws.FnBuiltPage", spec := "fnBuiltPage", inPlace := ["internal/abi.NoEscape", "internal/bytealg.MakeNoZero"], unfollowed := true, recurses := true, named := ["unicode/utf8.first", "unicode/utf8.acceptRanges", "unicode.CaseRanges"], apart := false, laid := [("unicode/utf8.acceptRanges", laid_unicode_utf8_acceptRanges), ("unicode.CaseRanges", laid_unicode_CaseRanges), ("unicode/utf8.first", laid_unicode_utf8_first)], narrowed := true }
def FnBuiltPageUptoSaid : Prop := fnBuiltPageUptoRow.holds Tryz.pinned (OpenSpec.upto fnBuiltPageSpec)

/-- 'laws.FnBuiltSorts', WHERE WHAT IT READS IS OF BULK AT MOST 1048576: true; the input reads as it did. -/
def fnBuiltSortsUptoRow : OpenClaim := { program := "ythdgomfmcocdlaagreatdoor", sum := "78a74b1e26d360af6680a3b123a5d7418b675c5e2ec882ac5ea60ca8e7b99b40", func := "pub-trackway/laws.FnBuiltSorts", spec := "fnBuiltSorts", inPlace := ["internal/abi.NoEscape", "internal/bytealg.MakeNoZero"], unfollowed := true, recurses := true, named := ["unicode/utf8.first", "unicode/utf8.acceptRanges", "unicode.CaseRanges"], apart := false, laid := [("unicode/utf8.acceptRanges", laid_unicode_utf8_acceptRanges), ("unicode.CaseRanges", laid_unicode_CaseRanges), ("unicode/utf8.first", laid_unicode_utf8_first)], narrowed := true }
def FnBuiltSortsUptoSaid : Prop := fnBuiltSortsUptoRow.holds Tryz.pinned (OpenSpec.upto fnBuiltSortsSpec)

/-- 'laws.FnContainer', WHERE WHAT IT READS IS OF BULK AT MOST 1048576: true; the input reads as it did. -/
def fnContainerUptoRow : OpenClaim := { program := "ythdgomfmcocdlaagreatdoor", sum := "78a74b1e26d360af6680a3b123a5d7418b675c5e2ec882ac5ea60ca8e7b99b40", func := "pub-trackway/laws.FnContainer", spec := "fnContainer", inPlace := ["internal/abi.NoEscape", "internal/bytealg.MakeNoZero"], unfollowed := true, recurses := true, named := ["unicode/utf8.first", "unicode/utf8.acceptRanges", "unicode.CaseRanges"], apart := false, laid := [("unicode/utf8.acceptRanges", laid_unicode_utf8_acceptRanges), ("unicode.CaseRanges", laid_unicode_CaseRanges), ("unicode/utf8.first", laid_unicode_utf8_first)], narrowed := true }
def FnContainerUptoSaid : Prop := fnContainerUptoRow.holds Tryz.pinned (OpenSpec.upto fnContainerSpec)

/-- 'laws.FnContainerLast', WHERE WHAT IT READS IS OF BULK AT MOST 1048576: true; the input reads as it did. -/
def fnContainerLastUptoRow : OpenClaim := { program := "ythdgomfmcocdlaagreatdoor", sum := "78a74b1e26d360af6680a3b123a5d7418b675c5e2ec882ac5ea60ca8e7b99b40", func := "pub-trackway/laws.FnContainerLast", spec := "fnContainerLast", inPlace := ["internal/abi.NoEscape", "internal/bytealg.MakeNoZero"], unfollowed := true, recurses := true, named := ["unicode/utf8.first", "unicode/utf8.acceptRanges", "unicode.CaseRanges"], apart := false, laid := [("unicode/utf8.acceptRanges", laid_unicode_utf8_acceptRanges), ("unicode.CaseRanges", laid_unicode_CaseRanges), ("unicode/utf8.first", laid_unicode_utf8_first)], narrowed := true }
def FnContainerLastUptoSaid : Prop := fnContainerLastUptoRow.holds Tryz.pinned (OpenSpec.upto fnContainerLastSpec)

/-- 'laws.FnContentTypes', WHERE WHAT IT READS IS OF BULK AT MOST 1048576: true; the input reads as it did. -/
def fnContentTypesUptoRow : OpenClaim := { program := "ythdgomfmcocdlaagreatdoor", sum := "78a74b1e26d360af6680a3b123a5d7418b675c5e2ec882ac5ea60ca8e7b99b40", func := "pub-trackway/laws.FnContentTypes", spec := "fnContentTypes", inPlace := ["internal/abi.NoEscape", "internal/bytealg.MakeNoZero"], unfollowed := true, recurses := true, named := ["unicode/utf8.first", "unicode/utf8.acceptRanges", "unicode.CaseRanges"], apart := false, laid := [("unicode/utf8.acceptRanges", laid_unicode_utf8_acceptRanges), ("unicode.CaseRanges", laid_unicode_CaseRanges), ("unicode/utf8.first", laid_unicode_utf8_first)], narrowed := true }
def FnContentTypesUptoSaid : Prop := fnContentTypesUptoRow.holds Tryz.pinned (OpenSpec.upto fnContentTypesSpec)

/-- 'laws.FnBaseRelBuilt', WHERE WHAT IT READS IS OF BULK AT MOST 1048576: true; the input reads as it did. -/
def fnBaseRelBuiltUptoRow : OpenClaim := { program := "ythdgomfmcocdlaagreatdoor", sum := "78a74b1e26d360af6680a3b123a5d7418b675c5e2ec882ac5ea60ca8e7b99b40", func := "pub-trackway/laws.FnBaseRelBuilt", spec := "fnBaseRelBuilt", inPlace := ["internal/abi.NoEscape", "internal/bytealg.MakeNoZero"], unfollowed := true, recurses := true, named := ["unicode/utf8.first", "unicode/utf8.acceptRanges", "unicode.CaseRanges"], apart := false, laid := [("unicode/utf8.acceptRanges", laid_unicode_utf8_acceptRanges), ("unicode.CaseRanges", laid_unicode_CaseRanges), ("unicode/utf8.first", laid_unicode_utf8_first)], narrowed := true }
def FnBaseRelBuiltUptoSaid : Prop := fnBaseRelBuiltUptoRow.holds Tryz.pinned (OpenSpec.upto fnBaseRelBuiltSpec)

end Rows
end Go.Proofs.YthdgomfmcocdlaaGreatDoor
