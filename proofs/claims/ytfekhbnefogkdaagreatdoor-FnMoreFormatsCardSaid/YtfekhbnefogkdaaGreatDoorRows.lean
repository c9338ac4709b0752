/-
  NARROWER THAN 'FOR EVERY INPUT', by the rows' own cells (each row's printed sentence says how): FnSiteTurned: laid · FnMoreFormats: laid · FnNoContent: laid · FnUnnormalizedSmall: laid · FnPathRelBack: laid · FnBaseAndName: laid.
  DERIVED. THE GIVEN ROWS OF THIS SEAT. 6 by the template 'for every input the law returns true; each argument reads behind the call as it read before'; 0 by the template 'total and deterministic' (their statements: YtfekhbnefogkdaaGreatDoorTotals.lean).
  GIVEN WITH THE SEED: the statements are not yours to turn. If you find one false, say at which input.
  Laid BY PROGRAM, IN A SANDBOX (cutbox-rows.mjs): the forced cells as the released guide's own fill.sh prints them over the translation aa43622b52a97d73… (all of the seat's roots in one cut). By AI agents, Wed Nov 11 2026. No macro, syntax, notation, axiom, sorry.
-/
import Derived.Test.YtfekhbnefogkdaaGreatDoorChecked
import GoSem.PinnedTables
import GoSem.Claim
import GoSem.ClaimJoined
import GoSem.ClaimMapViews
import Derived.JoinedTies
import Derived.KernelRfl
namespace Go.Proofs.YtfekhbnefogkdaaGreatDoor
/- THE CELL 'sum', in the pinned program and in every row, IS THE sha256 OF THE DUMP (.gsa) THAT YtfekhbnefogkdaaGreatDoorProg.lean LOADS. Nothing in Lean hashes anything: it is a label: what it is worth is what the hold of that sum in a sandbox is worth. -/
noncomputable def Tryz.pinned : Pinned := { name := "ytfekhbnefogkdaagreatdoor", sum := "aa43622b52a97d733d6d17a10021fb553ea5c62d37319ee6fa0f018e7718f846", checked := Tryz.checked }
namespace Rows
def none {H : Type} : Left H := { results := [], args := [] }

/- WHAT THE LISTED PACKAGE-LEVEL VARIABLES READ AS WHEN THE CALL BEGINS. Each datum BY PROGRAM (the guide's laid-datum.mjs) off the statement by which the dump's own 'gosem.cut.vars' lays the variable. In a bare row this is a premise. The card (YtfekhbnefogkdaaGreatDoorCards.lean) ties it to the program's text. -/
def laid_unicode_utf8_acceptRanges {H : Type} : DataW H := .agg [.agg [.lit (.int .u8 128), .lit (.int .u8 191)], .agg [.lit (.int .u8 160), .lit (.int .u8 191)], .agg [.lit (.int .u8 128), .lit (.int .u8 159)], .agg [.lit (.int .u8 144), .lit (.int .u8 191)], .agg [.lit (.int .u8 128), .lit (.int .u8 143)], .agg [.lit (.int .u8 0), .lit (.int .u8 0)], .agg [.lit (.int .u8 0), .lit (.int .u8 0)], .agg [.lit (.int .u8 0), .lit (.int .u8 0)], .agg [.lit (.int .u8 0), .lit (.int .u8 0)], .agg [.lit (.int .u8 0), .lit (.int .u8 0)], .agg [.lit (.int .u8 0), .lit (.int .u8 0)], .agg [.lit (.int .u8 0), .lit (.int .u8 0)], .agg [.lit (.int .u8 0), .lit (.int .u8 0)], .agg [.lit (.int .u8 0), .lit (.int .u8 0)], .agg [.lit (.int .u8 0), .lit (.int .u8 0)], .agg [.lit (.int .u8 0), .lit (.int .u8 0)]]
/-- One of Go's own tables, pinned by name: the form's constant. -/
def laid_unicode_CaseRanges : DataW Unit := Go.Pinned.caseRanges
/-- One of Go's own tables, pinned by name: the form's constant. -/
def laid_unicode_utf8_first : DataW Unit := Go.Pinned.utf8First

/-- 'laws.FnSiteTurned': WHATEVER THE INPUT: true; the input reads as it did. -/
def fnSiteTurnedSpec : ChangeSpec := { name := "fnSiteTurned", fn := fun _ => fun
  | [d1, d2, d3] => { results := [.lit (.bool true)], args := [d1, d2, d3] }
  | _ => none }
def fnSiteTurnedRow : OpenClaim := { program := "ytfekhbnefogkdaagreatdoor", sum := "aa43622b52a97d733d6d17a10021fb553ea5c62d37319ee6fa0f018e7718f846", func := "pub-trackway/laws.FnSiteTurned", spec := "fnSiteTurned", inPlace := ["internal/abi.NoEscape", "internal/bytealg.MakeNoZero"], unfollowed := true, recurses := true, named := ["unicode/utf8.first", "unicode/utf8.acceptRanges", "unicode.CaseRanges"], apart := false, laid := [("unicode/utf8.acceptRanges", laid_unicode_utf8_acceptRanges), ("unicode.CaseRanges", laid_unicode_CaseRanges), ("unicode/utf8.first", laid_unicode_utf8_first)] }
def FnSiteTurnedSaid : Prop := fnSiteTurnedRow.holds Tryz.pinned (OpenSpec.ofChange fnSiteTurnedSpec)

/-- ITS FALSE NEIGHBOUR: 'it returns false'. Refute it at one input. -/
def fnSiteTurnedWrong : ChangeSpec := { name := "fnSiteTurned", fn := fun _ => fun
  | [d1, d2, d3] => { results := [.lit (.bool false)], args := [d1, d2, d3] }
  | _ => none }
def FnSiteTurnedWrongFalsely : Prop := fnSiteTurnedRow.holds Tryz.pinned (OpenSpec.ofChange fnSiteTurnedWrong)

/-- 'laws.FnMoreFormats': WHATEVER THE INPUT: true; the input reads as it did. -/
def fnMoreFormatsSpec : ChangeSpec := { name := "fnMoreFormats", fn := fun _ => fun
  | [d1, d2, d3, d4] => { results := [.lit (.bool true)], args := [d1, d2, d3, d4] }
  | _ => none }
def fnMoreFormatsRow : OpenClaim := { program := "ytfekhbnefogkdaagreatdoor", sum := "aa43622b52a97d733d6d17a10021fb553ea5c62d37319ee6fa0f018e7718f846", func := "pub-trackway/laws.FnMoreFormats", spec := "fnMoreFormats", inPlace := ["internal/abi.NoEscape", "internal/bytealg.MakeNoZero"], unfollowed := true, recurses := true, named := ["unicode/utf8.first", "unicode/utf8.acceptRanges", "unicode.CaseRanges"], apart := false, laid := [("unicode/utf8.acceptRanges", laid_unicode_utf8_acceptRanges), ("unicode.CaseRanges", laid_unicode_CaseRanges), ("unicode/utf8.first", laid_unicode_utf8_first)] }
def FnMoreFormatsSaid : Prop := fnMoreFormatsRow.holds Tryz.pinned (OpenSpec.ofChange fnMoreFormatsSpec)

/-- ITS FALSE NEIGHBOUR: 'it returns false'. Refute it at one input. -/
def fnMoreFormatsWrong : ChangeSpec := { name := "fnMoreFormats", fn := fun _ => fun
  | [d1, d2, d3, d4] => { results := [.lit (.bool false)], args := [d1, d2, d3, d4] }
  | _ => none }
def FnMoreFormatsWrongFalsely : Prop := fnMoreFormatsRow.holds Tryz.pinned (OpenSpec.ofChange fnMoreFormatsWrong)

/-- 'laws.FnNoContent': WHATEVER THE INPUT: true; the input reads as it did. -/
def fnNoContentSpec : ChangeSpec := { name := "fnNoContent", fn := fun _ => fun
  | [d1, d2, d3] => { results := [.lit (.bool true)], args := [d1, d2, d3] }
  | _ => none }
def fnNoContentRow : OpenClaim := { program := "ytfekhbnefogkdaagreatdoor", sum := "aa43622b52a97d733d6d17a10021fb553ea5c62d37319ee6fa0f018e7718f846", func := "pub-trackway/laws.FnNoContent", spec := "fnNoContent", inPlace := ["internal/abi.NoEscape", "internal/bytealg.MakeNoZero"], unfollowed := true, recurses := true, named := ["unicode/utf8.first", "unicode/utf8.acceptRanges", "unicode.CaseRanges"], apart := false, laid := [("unicode/utf8.acceptRanges", laid_unicode_utf8_acceptRanges), ("unicode.CaseRanges", laid_unicode_CaseRanges), ("unicode/utf8.first", laid_unicode_utf8_first)] }
def FnNoContentSaid : Prop := fnNoContentRow.holds Tryz.pinned (OpenSpec.ofChange fnNoContentSpec)

/-- ITS FALSE NEIGHBOUR: 'it returns false'. Refute it at one input. -/
def fnNoContentWrong : ChangeSpec := { name := "fnNoContent", fn := fun _ => fun
  | [d1, d2, d3] => { results := [.lit (.bool false)], args := [d1, d2, d3] }
  | _ => none }
def FnNoContentWrongFalsely : Prop := fnNoContentRow.holds Tryz.pinned (OpenSpec.ofChange fnNoContentWrong)

/-- 'laws.FnUnnormalizedSmall': WHATEVER THE INPUT: true; the input reads as it did. -/
def fnUnnormalizedSmallSpec : ChangeSpec := { name := "fnUnnormalizedSmall", fn := fun _ => fun
  | [d1, d2, d3] => { results := [.lit (.bool true)], args := [d1, d2, d3] }
  | _ => none }
def fnUnnormalizedSmallRow : OpenClaim := { program := "ytfekhbnefogkdaagreatdoor", sum := "aa43622b52a97d733d6d17a10021fb553ea5c62d37319ee6fa0f018e7718f846", func := "pub-trackway/laws.FnUnnormalizedSmall", spec := "fnUnnormalizedSmall", inPlace := ["internal/abi.NoEscape", "internal/bytealg.MakeNoZero"], unfollowed := true, recurses := true, named := ["unicode/utf8.first", "unicode/utf8.acceptRanges", "unicode.CaseRanges"], apart := false, laid := [("unicode/utf8.acceptRanges", laid_unicode_utf8_acceptRanges), ("unicode.CaseRanges", laid_unicode_CaseRanges), ("unicode/utf8.first", laid_unicode_utf8_first)] }
def FnUnnormalizedSmallSaid : Prop := fnUnnormalizedSmallRow.holds Tryz.pinned (OpenSpec.ofChange fnUnnormalizedSmallSpec)

/-- ITS FALSE NEIGHBOUR: 'it returns false'. Refute it at one input. -/
def fnUnnormalizedSmallWrong : ChangeSpec := { name := "fnUnnormalizedSmall", fn := fun _ => fun
  | [d1, d2, d3] => { results := [.lit (.bool false)], args := [d1, d2, d3] }
  | _ => none }
def FnUnnormalizedSmallWrongFalsely : Prop := fnUnnormalizedSmallRow.holds Tryz.pinned (OpenSpec.ofChange fnUnnormalizedSmallWrong)

/-- 'laws.FnPathRelBack': WHATEVER THE INPUT: true; the input reads as it did. -/
def fnPathRelBackSpec : ChangeSpec := { name := "fnPathRelBack", fn := fun _ => fun
  | [d1, d2, d3, d4] => { results := [.lit (.bool true)], args := [d1, d2, d3, d4] }
  | _ => none }
def fnPathRelBackRow : OpenClaim := { program := "ytfekhbnefogkdaagreatdoor", sum := "aa43622b52a97d733d6d17a10021fb553ea5c62d37319ee6fa0f018e7718f846", func := "pub-trackway/laws.FnPathRelBack", spec := "fnPathRelBack", inPlace := ["internal/abi.NoEscape", "internal/bytealg.MakeNoZero"], unfollowed := true, recurses := true, named := ["unicode/utf8.first", "unicode/utf8.acceptRanges", "unicode.CaseRanges"], apart := false, laid := [("unicode/utf8.acceptRanges", laid_unicode_utf8_acceptRanges), ("unicode.CaseRanges", laid_unicode_CaseRanges), ("unicode/utf8.first", laid_unicode_utf8_first)] }
def FnPathRelBackSaid : Prop := fnPathRelBackRow.holds Tryz.pinned (OpenSpec.ofChange fnPathRelBackSpec)

/-- ITS FALSE NEIGHBOUR: 'it returns false'. Refute it at one input. -/
def fnPathRelBackWrong : ChangeSpec := { name := "fnPathRelBack", fn := fun _ => fun
  | [d1, d2, d3, d4] => { results := [.lit (.bool false)], args := [d1, d2, d3, d4] }
  | _ => none }
def FnPathRelBackWrongFalsely : Prop := fnPathRelBackRow.holds Tryz.pinned (OpenSpec.ofChange fnPathRelBackWrong)

/-- 'laws.FnBaseAndName': WHATEVER THE INPUT: true; the input reads as it did. -/
def fnBaseAndNameSpec : ChangeSpec := { name := "fnBaseAndName", fn := fun _ => fun
  | [d1, d2, d3] => { results := [.lit (.bool true)], args := [d1, d2, d3] }
  | _ => none }
def fnBaseAndNameRow : OpenClaim := { program := "ytfekhbnefogkdaagreatdoor", sum := "aa43622b52a97d733d6d17a10021fb553ea5c62d37319ee6fa0f018e7718f846", func := "pub-trackway/laws.FnBaseAndName", spec := "fnBaseAndName", inPlace := ["internal/abi.NoEscape", "internal/bytealg.MakeNoZero"], unfollowed := true, recurses := true, named := ["unicode/utf8.first", "unicode/utf8.acceptRanges", "unicode.CaseRanges"], apart := false, laid := [("unicode/utf8.acceptRanges", laid_unicode_utf8_acceptRanges), ("unicode.CaseRanges", laid_unicode_CaseRanges), ("unicode/utf8.first", laid_unicode_utf8_first)] }
def FnBaseAndNameSaid : Prop := fnBaseAndNameRow.holds Tryz.pinned (OpenSpec.ofChange fnBaseAndNameSpec)

/-- ITS FALSE NEIGHBOUR: 'it returns false'. Refute it at one input. -/
def fnBaseAndNameWrong : ChangeSpec := { name := "fnBaseAndName", fn := fun _ => fun
  | [d1, d2, d3] => { results := [.lit (.bool false)], args := [d1, d2, d3] }
  | _ => none }
def FnBaseAndNameWrongFalsely : Prop := fnBaseAndNameRow.holds Tryz.pinned (OpenSpec.ofChange fnBaseAndNameWrong)

/- THE SECOND FORM. 'bulk': how many values and letters a reading holds, each counted each time it is reached (what is shared counts as often as it is met; a slice's spare places count too). A statement '..UptoSaid' is the law's where the arguments, and the package variables that the reading takes, are together of bulk at most 1048576: NARROWER than '..Said'. Prove '..Said' where nothing that the law and all that it calls make is longer than what came in: it says more and counts as full. Else prove '..UptoSaid'. A law counts once. -/
mutual
def uptoBulk {H : Type} : DataW H → Nat
  | .lit (.string bytes) => bytes.length + 1
  | .lit _ => 1
  | .nil => 1
  | .ptr d => uptoBulk d + 1
  | .slice elems spare => uptoBulkAll elems + uptoBulkAll spare + 1
  | .agg parts => uptoBulkAll parts + 1
  | .iface _ d => uptoBulk d + 1
  | .map entries => uptoBulkEntries entries + 1
  | .held _ => 1
def uptoBulkAll {H : Type} : List (DataW H) → Nat
  | [] => 0
  | d :: r => uptoBulk d + uptoBulkAll r
def uptoBulkEntries {H : Type} : List (Lit × DataW H) → Nat
  | [] => 0
  | x :: r => uptoBulkEntry x + uptoBulkEntries r
def uptoBulkEntry {H : Type} : Lit × DataW H → Nat
  | (.string bytes, d) => bytes.length + uptoBulk d + 1
  | (_, d) => uptoBulk d + 1
 end
def uptoSmall : (H : Type) → List (DataW H) → Bool := fun _ ds => decide (uptoBulkAll ds ≤ 1048576)
def OpenSpec.upto (s : _root_.Go.ChangeSpec) : _root_.Go.OpenSpec := { _root_.Go.OpenSpec.ofChange s with cond := some uptoSmall }

/-- 'laws.FnSiteTurned', WHERE WHAT IT READS IS OF BULK AT MOST 1048576: true; the input reads as it did. -/
def fnSiteTurnedUptoRow : OpenClaim := { program := "ytfekhbnefogkdaagreatdoor", sum := "aa43622b52a97d733d6d17a10021fb553ea5c62d37319ee6fa0f018e7718f846", func := "pub-trackway/laws.FnSiteTurned", spec := "fnSiteTurned", inPlace := ["internal/abi.NoEscape", "internal/bytealg.MakeNoZero"], unfollowed := true, recurses := true, named := ["unicode/utf8.first", "unicode/utf8.acceptRanges", "unicode.CaseRanges"], apart := false, laid := [("unicode/utf8.acceptRanges", laid_unicode_utf8_acceptRanges), ("unicode.CaseRanges", laid_unicode_CaseRanges), ("unicode/utf8.first", laid_unicode_utf8_first)], narrowed := true }
def FnSiteTurnedUptoSaid : Prop := fnSiteTurnedUptoRow.holds Tryz.pinned (OpenSpec.upto fnSiteTurnedSpec)

/-- 'laws.FnMoreFormats', WHERE WHAT IT READS IS OF BULK AT MOST 1048576: true; the input reads as it did. -/
def fnMoreFormatsUptoRow : OpenClaim := { program := "ytfekhbnefogkdaagreatdoor", sum := "aa43622b52a97d733d6d17a10021fb553ea5c62d37319ee6fa0f018e7718f846", func := "pub-trackway/laws.FnMoreFormats", spec := "fnMoreFormats", inPlace := ["internal/abi.NoEscape", "internal/bytealg.MakeNoZero"], unfollowed := true, recurses := true, named := ["unicode/utf8.first", "unicode/utf8.acceptRanges", "unicode.CaseRanges"], apart := false, laid := [("unicode/utf8.acceptRanges", laid_unicode_utf8_acceptRanges), ("unicode.CaseRanges", laid_unicode_CaseRanges), ("unicode/utf8.first", laid_unicode_utf8_first)], narrowed := true }
def FnMoreFormatsUptoSaid : Prop := fnMoreFormatsUptoRow.holds Tryz.pinned (OpenSpec.upto fnMoreFormatsSpec)

/-- 'laws.FnNoContent', WHERE WHAT IT READS IS OF BULK AT MOST 1048576: true; the input reads as it did. -/
def fnNoContentUptoRow : OpenClaim := { program := "ytfekhbnefogkdaagreatdoor", sum := "aa43622b52a97d733d6d17a10021fb553ea5c62d37319ee6fa0f018e7718f846", func := "pub-trackway/laws.FnNoContent", spec := "fnNoContent", inPlace := ["internal/abi.NoEscape", "internal/bytealg.MakeNoZero"], unfollowed := true, recurses := true, named := ["unicode/utf8.first", "unicode/utf8.acceptRanges", "unicode.CaseRanges"], apart := false, laid := [("unicode/utf8.acceptRanges", laid_unicode_utf8_acceptRanges), ("unicode.CaseRanges", laid_unicode_CaseRanges), ("unicode/utf8.first", laid_unicode_utf8_first)], narrowed := true }
def FnNoContentUptoSaid : Prop := fnNoContentUptoRow.holds Tryz.pinned (OpenSpec.upto fnNoContentSpec)

/-- 'laws.FnUnnormalizedSmall', WHERE WHAT IT READS IS OF BULK AT MOST 1048576: true; the input reads as it did. -/
def fnUnnormalizedSmallUptoRow : OpenClaim := { program := "ytfekhbnefogkdaagreatdoor", sum := "aa43622b52a97d733d6d17a10021fb553ea5c62d37319ee6fa0f018e7718f846", func := "pub-trackway/laws.FnUnnormalizedSmall", spec := "fnUnnormalizedSmall", inPlace := ["internal/abi.NoEscape", "internal/bytealg.MakeNoZero"], unfollowed := true, recurses := true, named := ["unicode/utf8.first", "unicode/utf8.acceptRanges", "unicode.CaseRanges"], apart := false, laid := [("unicode/utf8.acceptRanges", laid_unicode_utf8_acceptRanges), ("unicode.CaseRanges", laid_unicode_CaseRanges), ("unicode/utf8.first", laid_unicode_utf8_first)], narrowed := true }
def FnUnnormalizedSmallUptoSaid : Prop := fnUnnormalizedSmallUptoRow.holds Tryz.pinned (OpenSpec.upto fnUnnormalizedSmallSpec)

/-- 'laws.FnPathRelBack', WHERE WHAT IT READS IS OF BULK AT MOST 1048576: true; the input reads as it did. -/
def fnPathRelBackUptoRow : OpenClaim := { program := "ytfekhbnefogkdaagreatdoor", sum := "aa43622b52a97d733d6d17a10021fb553ea5c62d37319ee6fa0f018e7718f846", func := "pub-trackway/laws.FnPathRelBack", spec := "fnPathRelBack", inPlace := ["internal/abi.NoEscape", "internal/bytealg.MakeNoZero"], unfollowed := true, recurses := true, named := ["unicode/utf8.first", "unicode/utf8.acceptRanges", "unicode.CaseRanges"], apart := false, laid := [("unicode/utf8.acceptRanges", laid_unicode_utf8_acceptRanges), ("unicode.CaseRanges", laid_unicode_CaseRanges), ("unicode/utf8.first", laid_unicode_utf8_first)], narrowed := true }
def FnPathRelBackUptoSaid : Prop := fnPathRelBackUptoRow.holds Tryz.pinned (OpenSpec.upto fnPathRelBackSpec)

/-- 'laws.FnBaseAndName', WHERE WHAT IT READS IS OF BULK AT MOST 1048576: true; the input reads as it did. -/
def fnBaseAndNameUptoRow : OpenClaim := { program := "ytfekhbnefogkdaagreatdoor", sum := "aa43622b52a97d733d6d17a10021fb553ea5c62d37319ee6fa0f018e7718f846", func := "pub-trackway/laws.FnBaseAndName", spec := "fnBaseAndName", inPlace := ["internal/abi.NoEscape", "internal/bytealg.MakeNoZero"], unfollowed := true, recurses := true, named := ["unicode/utf8.first", "unicode/utf8.acceptRanges", "unicode.CaseRanges"], apart := false, laid := [("unicode/utf8.acceptRanges", laid_unicode_utf8_acceptRanges), ("unicode.CaseRanges", laid_unicode_CaseRanges), ("unicode/utf8.first", laid_unicode_utf8_first)], narrowed := true }
def FnBaseAndNameUptoSaid : Prop := fnBaseAndNameUptoRow.holds Tryz.pinned (OpenSpec.upto fnBaseAndNameSpec)

end Rows
end Go.Proofs.YtfekhbnefogkdaaGreatDoor
