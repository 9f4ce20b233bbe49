/-
  NARROWER THAN 'FOR EVERY INPUT', by the rows' own cells (each row's printed sentence says how): FnConsumeNumberIgnoresWhatComesBefore: laid · FnConsumeNumberTakesMaximalDigitRun: laid · FnMatchOrElseOperatorTable: laid · FnUnquotedIdentifierExact: laid · FnMatchOrElseAnyRunes: laid · FnUnquotedIdentifierIgnoresWhatFollows: laid.
  DERIVED. THE GIVEN ROWS OF THIS SEAT. 6 by the template 'for every input the law returns true; each argument reads behind the call as it read before'; 0 by the template 'total and deterministic' (their statements: YtdbnffjidnfhdaaDoorTotals.lean).
  GIVEN WITH THE SEED: the statements are not yours to turn. If you find one false, say at which input.
  Laid BY PROGRAM, IN A SANDBOX (cutbox-rows.mjs): the forced cells as the released guide's own fill.sh prints them over the translation 0dd1299b30925302… (all of the seat's roots in one cut). By AI agents, Wed Nov 11 2026. No macro, syntax, notation, axiom, sorry.
-/
import Derived.Test.YtdbnffjidnfhdaaDoorChecked
import GoSem.PinnedTables
import GoSem.Claim
import GoSem.ClaimJoined
import GoSem.ClaimMapViews
import Derived.JoinedTies
import Derived.KernelRfl
namespace Go.Proofs.YtdbnffjidnfhdaaDoor
/- THE CELL 'sum', in the pinned program and in every row, IS THE sha256 OF THE DUMP (.gsa) THAT YtdbnffjidnfhdaaDoorProg.lean LOADS. Nothing in Lean hashes anything: it is a label: what it is worth is what the hold of that sum in a sandbox is worth. -/
noncomputable def Tryd.pinned : Pinned := { name := "ytdbnffjidnfhdaadoor", sum := "0dd1299b30925302123c73584dd038a1ed5f35794940d58ff37ac11ce2fcd091", checked := Tryd.checked }
namespace Rows
def none {H : Type} : Left H := { results := [], args := [] }

/- WHAT THE LISTED PACKAGE-LEVEL VARIABLES READ AS WHEN THE CALL BEGINS. Each datum BY PROGRAM (the guide's laid-datum.mjs) off the statement by which the dump's own 'gosem.cut.vars' lays the variable. In a bare row this is a premise. The card (YtdbnffjidnfhdaaDoorCards.lean) ties it to the program's text. -/
def laid_unicode_utf8_acceptRanges {H : Type} : DataW H := .agg [.agg [.lit (.int .u8 128), .lit (.int .u8 191)], .agg [.lit (.int .u8 160), .lit (.int .u8 191)], .agg [.lit (.int .u8 128), .lit (.int .u8 159)], .agg [.lit (.int .u8 144), .lit (.int .u8 191)], .agg [.lit (.int .u8 128), .lit (.int .u8 143)], .agg [.lit (.int .u8 0), .lit (.int .u8 0)], .agg [.lit (.int .u8 0), .lit (.int .u8 0)], .agg [.lit (.int .u8 0), .lit (.int .u8 0)], .agg [.lit (.int .u8 0), .lit (.int .u8 0)], .agg [.lit (.int .u8 0), .lit (.int .u8 0)], .agg [.lit (.int .u8 0), .lit (.int .u8 0)], .agg [.lit (.int .u8 0), .lit (.int .u8 0)], .agg [.lit (.int .u8 0), .lit (.int .u8 0)], .agg [.lit (.int .u8 0), .lit (.int .u8 0)], .agg [.lit (.int .u8 0), .lit (.int .u8 0)], .agg [.lit (.int .u8 0), .lit (.int .u8 0)]]
/-- One of Go's own tables, pinned by name: the form's constant. -/
def laid_unicode_utf8_first : DataW Unit := Go.Pinned.utf8First
def laid_github_com_jmespath_go_jmespath_identifierTrailingBits {H : Type} : DataW H := .agg [.lit (.int .u64 287948901175001088), .lit (.int .u64 576460745995190270)]

/-- 'n023_15.FnConsumeNumberIgnoresWhatComesBefore': WHATEVER THE INPUT: true; the input reads as it did. -/
def fnConsumeNumberIgnoresWhatComesBeforeSpec : ChangeSpec := { name := "fnConsumeNumberIgnoresWhatComesBefore", fn := fun _ => fun
  | [d1, d2, d3] => { results := [.lit (.bool true)], args := [d1, d2, d3] }
  | _ => none }
def fnConsumeNumberIgnoresWhatComesBeforeRow : OpenClaim := { program := "ytdbnffjidnfhdaadoor", sum := "0dd1299b30925302123c73584dd038a1ed5f35794940d58ff37ac11ce2fcd091", func := "github.com/jmespath/go-jmespath/n023_15.FnConsumeNumberIgnoresWhatComesBefore", spec := "fnConsumeNumberIgnoresWhatComesBefore", named := ["unicode/utf8.first", "unicode/utf8.acceptRanges"], apart := false, laid := [("unicode/utf8.acceptRanges", laid_unicode_utf8_acceptRanges), ("unicode/utf8.first", laid_unicode_utf8_first)] }
def FnConsumeNumberIgnoresWhatComesBeforeSaid : Prop := fnConsumeNumberIgnoresWhatComesBeforeRow.holds Tryd.pinned (OpenSpec.ofChange fnConsumeNumberIgnoresWhatComesBeforeSpec)

/-- ITS FALSE NEIGHBOUR: 'it returns false'. Refute it at one input. -/
def fnConsumeNumberIgnoresWhatComesBeforeWrong : ChangeSpec := { name := "fnConsumeNumberIgnoresWhatComesBefore", fn := fun _ => fun
  | [d1, d2, d3] => { results := [.lit (.bool false)], args := [d1, d2, d3] }
  | _ => none }
def FnConsumeNumberIgnoresWhatComesBeforeWrongFalsely : Prop := fnConsumeNumberIgnoresWhatComesBeforeRow.holds Tryd.pinned (OpenSpec.ofChange fnConsumeNumberIgnoresWhatComesBeforeWrong)

/-- 'n023_15.FnConsumeNumberTakesMaximalDigitRun': WHATEVER THE INPUT: true; the input reads as it did. -/
def fnConsumeNumberTakesMaximalDigitRunSpec : ChangeSpec := { name := "fnConsumeNumberTakesMaximalDigitRun", fn := fun _ => fun
  | [d1, d2] => { results := [.lit (.bool true)], args := [d1, d2] }
  | _ => none }
def fnConsumeNumberTakesMaximalDigitRunRow : OpenClaim := { program := "ytdbnffjidnfhdaadoor", sum := "0dd1299b30925302123c73584dd038a1ed5f35794940d58ff37ac11ce2fcd091", func := "github.com/jmespath/go-jmespath/n023_15.FnConsumeNumberTakesMaximalDigitRun", spec := "fnConsumeNumberTakesMaximalDigitRun", named := ["unicode/utf8.first", "unicode/utf8.acceptRanges"], apart := false, laid := [("unicode/utf8.acceptRanges", laid_unicode_utf8_acceptRanges), ("unicode/utf8.first", laid_unicode_utf8_first)] }
def FnConsumeNumberTakesMaximalDigitRunSaid : Prop := fnConsumeNumberTakesMaximalDigitRunRow.holds Tryd.pinned (OpenSpec.ofChange fnConsumeNumberTakesMaximalDigitRunSpec)

/-- ITS FALSE NEIGHBOUR: 'it returns false'. Refute it at one input. -/
def fnConsumeNumberTakesMaximalDigitRunWrong : ChangeSpec := { name := "fnConsumeNumberTakesMaximalDigitRun", fn := fun _ => fun
  | [d1, d2] => { results := [.lit (.bool false)], args := [d1, d2] }
  | _ => none }
def FnConsumeNumberTakesMaximalDigitRunWrongFalsely : Prop := fnConsumeNumberTakesMaximalDigitRunRow.holds Tryd.pinned (OpenSpec.ofChange fnConsumeNumberTakesMaximalDigitRunWrong)

/-- 'n023_13.FnMatchOrElseOperatorTable': WHATEVER THE INPUT: true; the input reads as it did. -/
def fnMatchOrElseOperatorTableSpec : ChangeSpec := { name := "fnMatchOrElseOperatorTable", fn := fun _ => fun
  | [d1, d2, d3] => { results := [.lit (.bool true)], args := [d1, d2, d3] }
  | _ => none }
def fnMatchOrElseOperatorTableRow : OpenClaim := { program := "ytdbnffjidnfhdaadoor", sum := "0dd1299b30925302123c73584dd038a1ed5f35794940d58ff37ac11ce2fcd091", func := "github.com/jmespath/go-jmespath/n023_13.FnMatchOrElseOperatorTable", spec := "fnMatchOrElseOperatorTable", named := ["unicode/utf8.first", "unicode/utf8.acceptRanges"], apart := false, laid := [("unicode/utf8.acceptRanges", laid_unicode_utf8_acceptRanges), ("unicode/utf8.first", laid_unicode_utf8_first)] }
def FnMatchOrElseOperatorTableSaid : Prop := fnMatchOrElseOperatorTableRow.holds Tryd.pinned (OpenSpec.ofChange fnMatchOrElseOperatorTableSpec)

/-- ITS FALSE NEIGHBOUR: 'it returns false'. Refute it at one input. -/
def fnMatchOrElseOperatorTableWrong : ChangeSpec := { name := "fnMatchOrElseOperatorTable", fn := fun _ => fun
  | [d1, d2, d3] => { results := [.lit (.bool false)], args := [d1, d2, d3] }
  | _ => none }
def FnMatchOrElseOperatorTableWrongFalsely : Prop := fnMatchOrElseOperatorTableRow.holds Tryd.pinned (OpenSpec.ofChange fnMatchOrElseOperatorTableWrong)

/-- 'n023_13.FnUnquotedIdentifierExact': WHATEVER THE INPUT: true; the input reads as it did. -/
def fnUnquotedIdentifierExactSpec : ChangeSpec := { name := "fnUnquotedIdentifierExact", vars := ["github.com/jmespath/go-jmespath.identifierTrailingBits"], fn := fun _ => fun
  | [d1, d2, d3, g1] => { results := [.lit (.bool true)], args := [d1, d2, d3], vars := [g1] }
  | _ => none }
def fnUnquotedIdentifierExactRow : OpenClaim := { program := "ytdbnffjidnfhdaadoor", sum := "0dd1299b30925302123c73584dd038a1ed5f35794940d58ff37ac11ce2fcd091", func := "github.com/jmespath/go-jmespath/n023_13.FnUnquotedIdentifierExact", spec := "fnUnquotedIdentifierExact", named := ["github.com/jmespath/go-jmespath.identifierTrailingBits", "unicode/utf8.first", "unicode/utf8.acceptRanges"], apart := false, laid := [("unicode/utf8.acceptRanges", laid_unicode_utf8_acceptRanges), ("github.com/jmespath/go-jmespath.identifierTrailingBits", laid_github_com_jmespath_go_jmespath_identifierTrailingBits), ("unicode/utf8.first", laid_unicode_utf8_first)] }
def FnUnquotedIdentifierExactSaid : Prop := fnUnquotedIdentifierExactRow.holds Tryd.pinned (OpenSpec.ofChange fnUnquotedIdentifierExactSpec)

/-- ITS FALSE NEIGHBOUR: 'it returns false'. Refute it at one input. -/
def fnUnquotedIdentifierExactWrong : ChangeSpec := { name := "fnUnquotedIdentifierExact", vars := ["github.com/jmespath/go-jmespath.identifierTrailingBits"], fn := fun _ => fun
  | [d1, d2, d3, g1] => { results := [.lit (.bool false)], args := [d1, d2, d3], vars := [g1] }
  | _ => none }
def FnUnquotedIdentifierExactWrongFalsely : Prop := fnUnquotedIdentifierExactRow.holds Tryd.pinned (OpenSpec.ofChange fnUnquotedIdentifierExactWrong)

/-- 'n023_13.FnMatchOrElseAnyRunes': WHATEVER THE INPUT: true; the input reads as it did. -/
def fnMatchOrElseAnyRunesSpec : ChangeSpec := { name := "fnMatchOrElseAnyRunes", fn := fun _ => fun
  | [d1, d2, d3, d4, d5, d6] => { results := [.lit (.bool true)], args := [d1, d2, d3, d4, d5, d6] }
  | _ => none }
def fnMatchOrElseAnyRunesRow : OpenClaim := { program := "ytdbnffjidnfhdaadoor", sum := "0dd1299b30925302123c73584dd038a1ed5f35794940d58ff37ac11ce2fcd091", func := "github.com/jmespath/go-jmespath/n023_13.FnMatchOrElseAnyRunes", spec := "fnMatchOrElseAnyRunes", named := ["unicode/utf8.first", "unicode/utf8.acceptRanges"], apart := false, laid := [("unicode/utf8.acceptRanges", laid_unicode_utf8_acceptRanges), ("unicode/utf8.first", laid_unicode_utf8_first)] }
def FnMatchOrElseAnyRunesSaid : Prop := fnMatchOrElseAnyRunesRow.holds Tryd.pinned (OpenSpec.ofChange fnMatchOrElseAnyRunesSpec)

/-- ITS FALSE NEIGHBOUR: 'it returns false'. Refute it at one input. -/
def fnMatchOrElseAnyRunesWrong : ChangeSpec := { name := "fnMatchOrElseAnyRunes", fn := fun _ => fun
  | [d1, d2, d3, d4, d5, d6] => { results := [.lit (.bool false)], args := [d1, d2, d3, d4, d5, d6] }
  | _ => none }
def FnMatchOrElseAnyRunesWrongFalsely : Prop := fnMatchOrElseAnyRunesRow.holds Tryd.pinned (OpenSpec.ofChange fnMatchOrElseAnyRunesWrong)

/-- 'n023_13.FnUnquotedIdentifierIgnoresWhatFollows': WHATEVER THE INPUT: true; the input reads as it did. -/
def fnUnquotedIdentifierIgnoresWhatFollowsSpec : ChangeSpec := { name := "fnUnquotedIdentifierIgnoresWhatFollows", vars := ["github.com/jmespath/go-jmespath.identifierTrailingBits"], fn := fun _ => fun
  | [d1, d2, d3, d4, d5, g1] => { results := [.lit (.bool true)], args := [d1, d2, d3, d4, d5], vars := [g1] }
  | _ => none }
def fnUnquotedIdentifierIgnoresWhatFollowsRow : OpenClaim := { program := "ytdbnffjidnfhdaadoor", sum := "0dd1299b30925302123c73584dd038a1ed5f35794940d58ff37ac11ce2fcd091", func := "github.com/jmespath/go-jmespath/n023_13.FnUnquotedIdentifierIgnoresWhatFollows", spec := "fnUnquotedIdentifierIgnoresWhatFollows", named := ["github.com/jmespath/go-jmespath.identifierTrailingBits", "unicode/utf8.first", "unicode/utf8.acceptRanges"], apart := false, laid := [("unicode/utf8.acceptRanges", laid_unicode_utf8_acceptRanges), ("github.com/jmespath/go-jmespath.identifierTrailingBits", laid_github_com_jmespath_go_jmespath_identifierTrailingBits), ("unicode/utf8.first", laid_unicode_utf8_first)] }
def FnUnquotedIdentifierIgnoresWhatFollowsSaid : Prop := fnUnquotedIdentifierIgnoresWhatFollowsRow.holds Tryd.pinned (OpenSpec.ofChange fnUnquotedIdentifierIgnoresWhatFollowsSpec)

/-- ITS FALSE NEIGHBOUR: 'it returns false'. Refute it at one input. -/
def fnUnquotedIdentifierIgnoresWhatFollowsWrong : ChangeSpec := { name := "fnUnquotedIdentifierIgnoresWhatFollows", vars := ["github.com/jmespath/go-jmespath.identifierTrailingBits"], fn := fun _ => fun
  | [d1, d2, d3, d4, d5, g1] => { results := [.lit (.bool false)], args := [d1, d2, d3, d4, d5], vars := [g1] }
  | _ => none }
def FnUnquotedIdentifierIgnoresWhatFollowsWrongFalsely : Prop := fnUnquotedIdentifierIgnoresWhatFollowsRow.holds Tryd.pinned (OpenSpec.ofChange fnUnquotedIdentifierIgnoresWhatFollowsWrong)

/- THE SECOND FORM. 'bulk': how many values and letters a reading holds, each counted each time it is reached (what is shared counts as often as it is met; a slice's spare places count too). A statement '..UptoSaid' is the law's where the arguments, and the package variables that the reading takes, are together of bulk at most 1048576: NARROWER than '..Said'. Prove '..Said' where nothing that the law and all that it calls make is longer than what came in: it says more and counts as full. Else prove '..UptoSaid'. A law counts once. -/
mutual
def uptoBulk {H : Type} : DataW H → Nat
  | .lit (.string bytes) => bytes.length + 1
  | .lit _ => 1
  | .nil => 1
  | .ptr d => uptoBulk d + 1
  | .slice elems spare => uptoBulkAll elems + uptoBulkAll spare + 1
  | .agg parts => uptoBulkAll parts + 1
  | .iface _ d => uptoBulk d + 1
  | .map entries => uptoBulkEntries entries + 1
  | .held _ => 1
def uptoBulkAll {H : Type} : List (DataW H) → Nat
  | [] => 0
  | d :: r => uptoBulk d + uptoBulkAll r
def uptoBulkEntries {H : Type} : List (Lit × DataW H) → Nat
  | [] => 0
  | x :: r => uptoBulkEntry x + uptoBulkEntries r
def uptoBulkEntry {H : Type} : Lit × DataW H → Nat
  | (.string bytes, d) => bytes.length + uptoBulk d + 1
  | (_, d) => uptoBulk d + 1
 end
def uptoSmall : (H : Type) → List (DataW H) → Bool := fun _ ds => decide (uptoBulkAll ds ≤ 1048576)
def OpenSpec.upto (s : _root_.Go.ChangeSpec) : _root_.Go.OpenSpec := { _root_.Go.OpenSpec.ofChange s with cond := some uptoSmall }

/-- 'n023_15.FnConsumeNumberIgnoresWhatComesBefore', WHERE WHAT IT READS IS OF BULK AT MOST 1048576: true; the input reads as it did. -/
def fnConsumeNumberIgnoresWhatComesBeforeUptoRow : OpenClaim := { program := "ytdbnffjidnfhdaadoor", sum := "0dd1299b30925302123c73584dd038a1ed5f35794940d58ff37ac11ce2fcd091", func := "github.com/jmespath/go-jmespath/n023_15.FnConsumeNumberIgnoresWhatComesBefore", spec := "fnConsumeNumberIgnoresWhatComesBefore", named := ["unicode/utf8.first", "unicode/utf8.acceptRanges"], apart := false, laid := [("unicode/utf8.acceptRanges", laid_unicode_utf8_acceptRanges), ("unicode/utf8.first", laid_unicode_utf8_first)], narrowed := true }
def FnConsumeNumberIgnoresWhatComesBeforeUptoSaid : Prop := fnConsumeNumberIgnoresWhatComesBeforeUptoRow.holds Tryd.pinned (OpenSpec.upto fnConsumeNumberIgnoresWhatComesBeforeSpec)

/-- 'n023_15.FnConsumeNumberTakesMaximalDigitRun', WHERE WHAT IT READS IS OF BULK AT MOST 1048576: true; the input reads as it did. -/
def fnConsumeNumberTakesMaximalDigitRunUptoRow : OpenClaim := { program := "ytdbnffjidnfhdaadoor", sum := "0dd1299b30925302123c73584dd038a1ed5f35794940d58ff37ac11ce2fcd091", func := "github.com/jmespath/go-jmespath/n023_15.FnConsumeNumberTakesMaximalDigitRun", spec := "fnConsumeNumberTakesMaximalDigitRun", named := ["unicode/utf8.first", "unicode/utf8.acceptRanges"], apart := false, laid := [("unicode/utf8.acceptRanges", laid_unicode_utf8_acceptRanges), ("unicode/utf8.first", laid_unicode_utf8_first)], narrowed := true }
def FnConsumeNumberTakesMaximalDigitRunUptoSaid : Prop := fnConsumeNumberTakesMaximalDigitRunUptoRow.holds Tryd.pinned (OpenSpec.upto fnConsumeNumberTakesMaximalDigitRunSpec)

/-- 'n023_13.FnMatchOrElseOperatorTable', WHERE WHAT IT READS IS OF BULK AT MOST 1048576: true; the input reads as it did. -/
def fnMatchOrElseOperatorTableUptoRow : OpenClaim := { program := "ytdbnffjidnfhdaadoor", sum := "0dd1299b30925302123c73584dd038a1ed5f35794940d58ff37ac11ce2fcd091", func := "github.com/jmespath/go-jmespath/n023_13.FnMatchOrElseOperatorTable", spec := "fnMatchOrElseOperatorTable", named := ["unicode/utf8.first", "unicode/utf8.acceptRanges"], apart := false, laid := [("unicode/utf8.acceptRanges", laid_unicode_utf8_acceptRanges), ("unicode/utf8.first", laid_unicode_utf8_first)], narrowed := true }
def FnMatchOrElseOperatorTableUptoSaid : Prop := fnMatchOrElseOperatorTableUptoRow.holds Tryd.pinned (OpenSpec.upto fnMatchOrElseOperatorTableSpec)

/-- 'n023_13.FnUnquotedIdentifierExact', WHERE WHAT IT READS IS OF BULK AT MOST 1048576: true; the input reads as it did. -/
def fnUnquotedIdentifierExactUptoRow : OpenClaim := { program := "ytdbnffjidnfhdaadoor", sum := "0dd1299b30925302123c73584dd038a1ed5f35794940d58ff37ac11ce2fcd091", func := "github.com/jmespath/go-jmespath/n023_13.FnUnquotedIdentifierExact", spec := "fnUnquotedIdentifierExact", named := ["github.com/jmespath/go-jmespath.identifierTrailingBits", "unicode/utf8.first", "unicode/utf8.acceptRanges"], apart := false, laid := [("unicode/utf8.acceptRanges", laid_unicode_utf8_acceptRanges), ("github.com/jmespath/go-jmespath.identifierTrailingBits", laid_github_com_jmespath_go_jmespath_identifierTrailingBits), ("unicode/utf8.first", laid_unicode_utf8_first)], narrowed := true }
def FnUnquotedIdentifierExactUptoSaid : Prop := fnUnquotedIdentifierExactUptoRow.holds Tryd.pinned (OpenSpec.upto fnUnquotedIdentifierExactSpec)

/-- 'n023_13.FnMatchOrElseAnyRunes', WHERE WHAT IT READS IS OF BULK AT MOST 1048576: true; the input reads as it did. -/
def fnMatchOrElseAnyRunesUptoRow : OpenClaim := { program := "ytdbnffjidnfhdaadoor", sum := "0dd1299b30925302123c73584dd038a1ed5f35794940d58ff37ac11ce2fcd091", func := "github.com/jmespath/go-jmespath/n023_13.FnMatchOrElseAnyRunes", spec := "fnMatchOrElseAnyRunes", named := ["unicode/utf8.first", "unicode/utf8.acceptRanges"], apart := false, laid := [("unicode/utf8.acceptRanges", laid_unicode_utf8_acceptRanges), ("unicode/utf8.first", laid_unicode_utf8_first)], narrowed := true }
def FnMatchOrElseAnyRunesUptoSaid : Prop := fnMatchOrElseAnyRunesUptoRow.holds Tryd.pinned (OpenSpec.upto fnMatchOrElseAnyRunesSpec)

/-- 'n023_13.FnUnquotedIdentifierIgnoresWhatFollows', WHERE WHAT IT READS IS OF BULK AT MOST 1048576: true; the input reads as it did. -/
def fnUnquotedIdentifierIgnoresWhatFollowsUptoRow : OpenClaim := { program := "ytdbnffjidnfhdaadoor", sum := "0dd1299b30925302123c73584dd038a1ed5f35794940d58ff37ac11ce2fcd091", func := "github.com/jmespath/go-jmespath/n023_13.FnUnquotedIdentifierIgnoresWhatFollows", spec := "fnUnquotedIdentifierIgnoresWhatFollows", named := ["github.com/jmespath/go-jmespath.identifierTrailingBits", "unicode/utf8.first", "unicode/utf8.acceptRanges"], apart := false, laid := [("unicode/utf8.acceptRanges", laid_unicode_utf8_acceptRanges), ("github.com/jmespath/go-jmespath.identifierTrailingBits", laid_github_com_jmespath_go_jmespath_identifierTrailingBits), ("unicode/utf8.first", laid_unicode_utf8_first)], narrowed := true }
def FnUnquotedIdentifierIgnoresWhatFollowsUptoSaid : Prop := fnUnquotedIdentifierIgnoresWhatFollowsUptoRow.holds Tryd.pinned (OpenSpec.upto fnUnquotedIdentifierIgnoresWhatFollowsSpec)

end Rows
end Go.Proofs.YtdbnffjidnfhdaaDoor
