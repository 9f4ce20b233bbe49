/-
  NARROWER THAN 'FOR EVERY INPUT', by the rows' own cells (each row's printed sentence says how): FnLexerBackStepIsRuneLength: laid · FnLexerPeekPredictsNext: laid · FnConsumeUntilClosedForm: laid · FnLexerBackUndoesNext: laid · FnLexerPeekCaseTable: laid · FnConsumeUntilEscapeRoundTrip: laid.
  DERIVED. THE GIVEN ROWS OF THIS SEAT. 6 by the template 'for every input the law returns true; each argument reads behind the call as it read before'; 0 by the template 'total and deterministic' (their statements: YthipmjgibcnfiaaDoorTotals.lean).
  GIVEN WITH THE SEED: the statements are not yours to turn. If you find one false, say at which input.
  Laid BY PROGRAM, IN A SANDBOX (cutbox-rows.mjs): the forced cells as the released guide's own fill.sh prints them over the translation bf2794a818966176… (all of the seat's roots in one cut). By AI agents, Wed Nov 11 2026. No macro, syntax, notation, axiom, sorry.
-/
import Derived.Test.YthipmjgibcnfiaaDoorChecked
import GoSem.PinnedTables
import GoSem.Claim
import GoSem.ClaimJoined
import GoSem.ClaimMapViews
import Derived.JoinedTies
import Derived.KernelRfl
namespace Go.Proofs.YthipmjgibcnfiaaDoor
/- THE CELL 'sum', in the pinned program and in every row, IS THE sha256 OF THE DUMP (.gsa) THAT YthipmjgibcnfiaaDoorProg.lean LOADS. Nothing in Lean hashes anything: it is a label: what it is worth is what the hold of that sum in a sandbox is worth. -/
noncomputable def Tryd.pinned : Pinned := { name := "ythipmjgibcnfiaadoor", sum := "bf2794a8189661768788af3c6bbf753bf1090a0bf43a90be7f82df26d6fad1d6", checked := Tryd.checked }
namespace Rows
def none {H : Type} : Left H := { results := [], args := [] }

/- WHAT THE LISTED PACKAGE-LEVEL VARIABLES READ AS WHEN THE CALL BEGINS. Each datum BY PROGRAM (the guide's laid-datum.mjs) off the statement by which the dump's own 'gosem.cut.vars' lays the variable. In a bare row this is a premise. The card (YthipmjgibcnfiaaDoorCards.lean) ties it to the program's text. -/
def laid_unicode_utf8_acceptRanges {H : Type} : DataW H := .agg [.agg [.lit (.int .u8 128), .lit (.int .u8 191)], .agg [.lit (.int .u8 160), .lit (.int .u8 191)], .agg [.lit (.int .u8 128), .lit (.int .u8 159)], .agg [.lit (.int .u8 144), .lit (.int .u8 191)], .agg [.lit (.int .u8 128), .lit (.int .u8 143)], .agg [.lit (.int .u8 0), .lit (.int .u8 0)], .agg [.lit (.int .u8 0), .lit (.int .u8 0)], .agg [.lit (.int .u8 0), .lit (.int .u8 0)], .agg [.lit (.int .u8 0), .lit (.int .u8 0)], .agg [.lit (.int .u8 0), .lit (.int .u8 0)], .agg [.lit (.int .u8 0), .lit (.int .u8 0)], .agg [.lit (.int .u8 0), .lit (.int .u8 0)], .agg [.lit (.int .u8 0), .lit (.int .u8 0)], .agg [.lit (.int .u8 0), .lit (.int .u8 0)], .agg [.lit (.int .u8 0), .lit (.int .u8 0)], .agg [.lit (.int .u8 0), .lit (.int .u8 0)]]
/-- One of Go's own tables, pinned by name: the form's constant. -/
def laid_unicode_utf8_first : DataW Unit := Go.Pinned.utf8First

/-- 'n023_11.FnLexerBackStepIsRuneLength': WHATEVER THE INPUT: true; the input reads as it did. -/
def fnLexerBackStepIsRuneLengthSpec : ChangeSpec := { name := "fnLexerBackStepIsRuneLength", fn := fun _ => fun
  | [d1, d2] => { results := [.lit (.bool true)], args := [d1, d2] }
  | _ => none }
def fnLexerBackStepIsRuneLengthRow : OpenClaim := { program := "ythipmjgibcnfiaadoor", sum := "bf2794a8189661768788af3c6bbf753bf1090a0bf43a90be7f82df26d6fad1d6", func := "github.com/jmespath/go-jmespath/n023_11.FnLexerBackStepIsRuneLength", spec := "fnLexerBackStepIsRuneLength", named := ["unicode/utf8.first", "unicode/utf8.acceptRanges"], apart := false, laid := [("unicode/utf8.acceptRanges", laid_unicode_utf8_acceptRanges), ("unicode/utf8.first", laid_unicode_utf8_first)] }
def FnLexerBackStepIsRuneLengthSaid : Prop := fnLexerBackStepIsRuneLengthRow.holds Tryd.pinned (OpenSpec.ofChange fnLexerBackStepIsRuneLengthSpec)

/-- ITS FALSE NEIGHBOUR: 'it returns false'. Refute it at one input. -/
def fnLexerBackStepIsRuneLengthWrong : ChangeSpec := { name := "fnLexerBackStepIsRuneLength", fn := fun _ => fun
  | [d1, d2] => { results := [.lit (.bool false)], args := [d1, d2] }
  | _ => none }
def FnLexerBackStepIsRuneLengthWrongFalsely : Prop := fnLexerBackStepIsRuneLengthRow.holds Tryd.pinned (OpenSpec.ofChange fnLexerBackStepIsRuneLengthWrong)

/-- 'n023_11.FnLexerPeekPredictsNext': WHATEVER THE INPUT: true; the input reads as it did. -/
def fnLexerPeekPredictsNextSpec : ChangeSpec := { name := "fnLexerPeekPredictsNext", fn := fun _ => fun
  | [d1, d2] => { results := [.lit (.bool true)], args := [d1, d2] }
  | _ => none }
def fnLexerPeekPredictsNextRow : OpenClaim := { program := "ythipmjgibcnfiaadoor", sum := "bf2794a8189661768788af3c6bbf753bf1090a0bf43a90be7f82df26d6fad1d6", func := "github.com/jmespath/go-jmespath/n023_11.FnLexerPeekPredictsNext", spec := "fnLexerPeekPredictsNext", named := ["unicode/utf8.first", "unicode/utf8.acceptRanges"], apart := false, laid := [("unicode/utf8.acceptRanges", laid_unicode_utf8_acceptRanges), ("unicode/utf8.first", laid_unicode_utf8_first)] }
def FnLexerPeekPredictsNextSaid : Prop := fnLexerPeekPredictsNextRow.holds Tryd.pinned (OpenSpec.ofChange fnLexerPeekPredictsNextSpec)

/-- ITS FALSE NEIGHBOUR: 'it returns false'. Refute it at one input. -/
def fnLexerPeekPredictsNextWrong : ChangeSpec := { name := "fnLexerPeekPredictsNext", fn := fun _ => fun
  | [d1, d2] => { results := [.lit (.bool false)], args := [d1, d2] }
  | _ => none }
def FnLexerPeekPredictsNextWrongFalsely : Prop := fnLexerPeekPredictsNextRow.holds Tryd.pinned (OpenSpec.ofChange fnLexerPeekPredictsNextWrong)

/-- 'n023_11.FnConsumeUntilClosedForm': WHATEVER THE INPUT: true; the input reads as it did. -/
def fnConsumeUntilClosedFormSpec : ChangeSpec := { name := "fnConsumeUntilClosedForm", fn := fun _ => fun
  | [d1, d2, d3] => { results := [.lit (.bool true)], args := [d1, d2, d3] }
  | _ => none }
def fnConsumeUntilClosedFormRow : OpenClaim := { program := "ythipmjgibcnfiaadoor", sum := "bf2794a8189661768788af3c6bbf753bf1090a0bf43a90be7f82df26d6fad1d6", func := "github.com/jmespath/go-jmespath/n023_11.FnConsumeUntilClosedForm", spec := "fnConsumeUntilClosedForm", named := ["unicode/utf8.first", "unicode/utf8.acceptRanges"], apart := false, laid := [("unicode/utf8.acceptRanges", laid_unicode_utf8_acceptRanges), ("unicode/utf8.first", laid_unicode_utf8_first)] }
def FnConsumeUntilClosedFormSaid : Prop := fnConsumeUntilClosedFormRow.holds Tryd.pinned (OpenSpec.ofChange fnConsumeUntilClosedFormSpec)

/-- ITS FALSE NEIGHBOUR: 'it returns false'. Refute it at one input. -/
def fnConsumeUntilClosedFormWrong : ChangeSpec := { name := "fnConsumeUntilClosedForm", fn := fun _ => fun
  | [d1, d2, d3] => { results := [.lit (.bool false)], args := [d1, d2, d3] }
  | _ => none }
def FnConsumeUntilClosedFormWrongFalsely : Prop := fnConsumeUntilClosedFormRow.holds Tryd.pinned (OpenSpec.ofChange fnConsumeUntilClosedFormWrong)

/-- 'n023_11.FnLexerBackUndoesNext': WHATEVER THE INPUT: true; the input reads as it did. -/
def fnLexerBackUndoesNextSpec : ChangeSpec := { name := "fnLexerBackUndoesNext", fn := fun _ => fun
  | [d1, d2] => { results := [.lit (.bool true)], args := [d1, d2] }
  | _ => none }
def fnLexerBackUndoesNextRow : OpenClaim := { program := "ythipmjgibcnfiaadoor", sum := "bf2794a8189661768788af3c6bbf753bf1090a0bf43a90be7f82df26d6fad1d6", func := "github.com/jmespath/go-jmespath/n023_11.FnLexerBackUndoesNext", spec := "fnLexerBackUndoesNext", named := ["unicode/utf8.first", "unicode/utf8.acceptRanges"], apart := false, laid := [("unicode/utf8.acceptRanges", laid_unicode_utf8_acceptRanges), ("unicode/utf8.first", laid_unicode_utf8_first)] }
def FnLexerBackUndoesNextSaid : Prop := fnLexerBackUndoesNextRow.holds Tryd.pinned (OpenSpec.ofChange fnLexerBackUndoesNextSpec)

/-- ITS FALSE NEIGHBOUR: 'it returns false'. Refute it at one input. -/
def fnLexerBackUndoesNextWrong : ChangeSpec := { name := "fnLexerBackUndoesNext", fn := fun _ => fun
  | [d1, d2] => { results := [.lit (.bool false)], args := [d1, d2] }
  | _ => none }
def FnLexerBackUndoesNextWrongFalsely : Prop := fnLexerBackUndoesNextRow.holds Tryd.pinned (OpenSpec.ofChange fnLexerBackUndoesNextWrong)

/-- 'n023_11.FnLexerPeekCaseTable': WHATEVER THE INPUT: true; the input reads as it did. -/
def fnLexerPeekCaseTableSpec : ChangeSpec := { name := "fnLexerPeekCaseTable", fn := fun _ => fun
  | [d1, d2] => { results := [.lit (.bool true)], args := [d1, d2] }
  | _ => none }
def fnLexerPeekCaseTableRow : OpenClaim := { program := "ythipmjgibcnfiaadoor", sum := "bf2794a8189661768788af3c6bbf753bf1090a0bf43a90be7f82df26d6fad1d6", func := "github.com/jmespath/go-jmespath/n023_11.FnLexerPeekCaseTable", spec := "fnLexerPeekCaseTable", named := ["unicode/utf8.first", "unicode/utf8.acceptRanges"], apart := false, laid := [("unicode/utf8.acceptRanges", laid_unicode_utf8_acceptRanges), ("unicode/utf8.first", laid_unicode_utf8_first)] }
def FnLexerPeekCaseTableSaid : Prop := fnLexerPeekCaseTableRow.holds Tryd.pinned (OpenSpec.ofChange fnLexerPeekCaseTableSpec)

/-- ITS FALSE NEIGHBOUR: 'it returns false'. Refute it at one input. -/
def fnLexerPeekCaseTableWrong : ChangeSpec := { name := "fnLexerPeekCaseTable", fn := fun _ => fun
  | [d1, d2] => { results := [.lit (.bool false)], args := [d1, d2] }
  | _ => none }
def FnLexerPeekCaseTableWrongFalsely : Prop := fnLexerPeekCaseTableRow.holds Tryd.pinned (OpenSpec.ofChange fnLexerPeekCaseTableWrong)

/-- 'n023_11.FnConsumeUntilEscapeRoundTrip': WHATEVER THE INPUT: true; the input reads as it did. -/
def fnConsumeUntilEscapeRoundTripSpec : ChangeSpec := { name := "fnConsumeUntilEscapeRoundTrip", fn := fun _ => fun
  | [d1, d2, d3] => { results := [.lit (.bool true)], args := [d1, d2, d3] }
  | _ => none }
def fnConsumeUntilEscapeRoundTripRow : OpenClaim := { program := "ythipmjgibcnfiaadoor", sum := "bf2794a8189661768788af3c6bbf753bf1090a0bf43a90be7f82df26d6fad1d6", func := "github.com/jmespath/go-jmespath/n023_11.FnConsumeUntilEscapeRoundTrip", spec := "fnConsumeUntilEscapeRoundTrip", named := ["unicode/utf8.first", "unicode/utf8.acceptRanges"], apart := false, laid := [("unicode/utf8.acceptRanges", laid_unicode_utf8_acceptRanges), ("unicode/utf8.first", laid_unicode_utf8_first)] }
def FnConsumeUntilEscapeRoundTripSaid : Prop := fnConsumeUntilEscapeRoundTripRow.holds Tryd.pinned (OpenSpec.ofChange fnConsumeUntilEscapeRoundTripSpec)

/-- ITS FALSE NEIGHBOUR: 'it returns false'. Refute it at one input. -/
def fnConsumeUntilEscapeRoundTripWrong : ChangeSpec := { name := "fnConsumeUntilEscapeRoundTrip", fn := fun _ => fun
  | [d1, d2, d3] => { results := [.lit (.bool false)], args := [d1, d2, d3] }
  | _ => none }
def FnConsumeUntilEscapeRoundTripWrongFalsely : Prop := fnConsumeUntilEscapeRoundTripRow.holds Tryd.pinned (OpenSpec.ofChange fnConsumeUntilEscapeRoundTripWrong)

/- THE SECOND FORM. 'bulk': how many values and letters a reading holds, each counted each time it is reached (what is shared counts as often as it is met; a slice's spare places count too). A statement '..UptoSaid' is the law's where the arguments, and the package variables that the reading takes, are together of bulk at most 1048576: NARROWER than '..Said'. Prove '..Said' where nothing that the law and all that it calls make is longer than what came in: it says more and counts as full. Else prove '..UptoSaid'. A law counts once. -/
mutual
def uptoBulk {H : Type} : DataW H → Nat
  | .lit (.string bytes) => bytes.length + 1
  | .lit _ => 1
  | .nil => 1
  | .ptr d => uptoBulk d + 1
  | .slice elems spare => uptoBulkAll elems + uptoBulkAll spare + 1
  | .agg parts => uptoBulkAll parts + 1
  | .iface _ d => uptoBulk d + 1
  | .map entries => uptoBulkEntries entries + 1
  | .held _ => 1
def uptoBulkAll {H : Type} : List (DataW H) → Nat
  | [] => 0
  | d :: r => uptoBulk d + uptoBulkAll r
def uptoBulkEntries {H : Type} : List (Lit × DataW H) → Nat
  | [] => 0
  | x :: r => uptoBulkEntry x + uptoBulkEntries r
def uptoBulkEntry {H : Type} : Lit × DataW H → Nat
  | (.string bytes, d) => bytes.length + uptoBulk d + 1
  | (_, d) => uptoBulk d + 1
 end
def uptoSmall : (H : Type) → List (DataW H) → Bool := fun _ ds => decide (uptoBulkAll ds ≤ 1048576)
def OpenSpec.upto (s : _root_.Go.ChangeSpec) : _root_.Go.OpenSpec := { _root_.Go.OpenSpec.ofChange s with cond := some uptoSmall }

/-- 'n023_11.FnLexerBackStepIsRuneLength', WHERE WHAT IT READS IS OF BULK AT MOST 1048576: true; the input reads as it did. -/
def fnLexerBackStepIsRuneLengthUptoRow : OpenClaim := { program := "ythipmjgibcnfiaadoor", sum := "bf2794a8189661768788af3c6bbf753bf1090a0bf43a90be7f82df26d6fad1d6", func := "github.com/jmespath/go-jmespath/n023_11.FnLexerBackStepIsRuneLength", spec := "fnLexerBackStepIsRuneLength", named := ["unicode/utf8.first", "unicode/utf8.acceptRanges"], apart := false, laid := [("unicode/utf8.acceptRanges", laid_unicode_utf8_acceptRanges), ("unicode/utf8.first", laid_unicode_utf8_first)], narrowed := true }
def FnLexerBackStepIsRuneLengthUptoSaid : Prop := fnLexerBackStepIsRuneLengthUptoRow.holds Tryd.pinned (OpenSpec.upto fnLexerBackStepIsRuneLengthSpec)

/-- 'n023_11.FnLexerPeekPredictsNext', WHERE WHAT IT READS IS OF BULK AT MOST 1048576: true; the input reads as it did. -/
def fnLexerPeekPredictsNextUptoRow : OpenClaim := { program := "ythipmjgibcnfiaadoor", sum := "bf2794a8189661768788af3c6bbf753bf1090a0bf43a90be7f82df26d6fad1d6", func := "github.com/jmespath/go-jmespath/n023_11.FnLexerPeekPredictsNext", spec := "fnLexerPeekPredictsNext", named := ["unicode/utf8.first", "unicode/utf8.acceptRanges"], apart := false, laid := [("unicode/utf8.acceptRanges", laid_unicode_utf8_acceptRanges), ("unicode/utf8.first", laid_unicode_utf8_first)], narrowed := true }
def FnLexerPeekPredictsNextUptoSaid : Prop := fnLexerPeekPredictsNextUptoRow.holds Tryd.pinned (OpenSpec.upto fnLexerPeekPredictsNextSpec)

/-- 'n023_11.FnConsumeUntilClosedForm', WHERE WHAT IT READS IS OF BULK AT MOST 1048576: true; the input reads as it did. -/
def fnConsumeUntilClosedFormUptoRow : OpenClaim := { program := "ythipmjgibcnfiaadoor", sum := "bf2794a8189661768788af3c6bbf753bf1090a0bf43a90be7f82df26d6fad1d6", func := "github.com/jmespath/go-jmespath/n023_11.FnConsumeUntilClosedForm", spec := "fnConsumeUntilClosedForm", named := ["unicode/utf8.first", "unicode/utf8.acceptRanges"], apart := false, laid := [("unicode/utf8.acceptRanges", laid_unicode_utf8_acceptRanges), ("unicode/utf8.first", laid_unicode_utf8_first)], narrowed := true }
def FnConsumeUntilClosedFormUptoSaid : Prop := fnConsumeUntilClosedFormUptoRow.holds Tryd.pinned (OpenSpec.upto fnConsumeUntilClosedFormSpec)

/-- 'n023_11.FnLexerBackUndoesNext', WHERE WHAT IT READS IS OF BULK AT MOST 1048576: true; the input reads as it did. -/
def fnLexerBackUndoesNextUptoRow : OpenClaim := { program := "ythipmjgibcnfiaadoor", sum := "bf2794a8189661768788af3c6bbf753bf1090a0bf43a90be7f82df26d6fad1d6", func := "github.com/jmespath/go-jmespath/n023_11.FnLexerBackUndoesNext", spec := "fnLexerBackUndoesNext", named := ["unicode/utf8.first", "unicode/utf8.acceptRanges"], apart := false, laid := [("unicode/utf8.acceptRanges", laid_unicode_utf8_acceptRanges), ("unicode/utf8.first", laid_unicode_utf8_first)], narrowed := true }
def FnLexerBackUndoesNextUptoSaid : Prop := fnLexerBackUndoesNextUptoRow.holds Tryd.pinned (OpenSpec.upto fnLexerBackUndoesNextSpec)

/-- 'n023_11.FnLexerPeekCaseTable', WHERE WHAT IT READS IS OF BULK AT MOST 1048576: true; the input reads as it did. -/
def fnLexerPeekCaseTableUptoRow : OpenClaim := { program := "ythipmjgibcnfiaadoor", sum := "bf2794a8189661768788af3c6bbf753bf1090a0bf43a90be7f82df26d6fad1d6", func := "github.com/jmespath/go-jmespath/n023_11.FnLexerPeekCaseTable", spec := "fnLexerPeekCaseTable", named := ["unicode/utf8.first", "unicode/utf8.acceptRanges"], apart := false, laid := [("unicode/utf8.acceptRanges", laid_unicode_utf8_acceptRanges), ("unicode/utf8.first", laid_unicode_utf8_first)], narrowed := true }
def FnLexerPeekCaseTableUptoSaid : Prop := fnLexerPeekCaseTableUptoRow.holds Tryd.pinned (OpenSpec.upto fnLexerPeekCaseTableSpec)

/-- 'n023_11.FnConsumeUntilEscapeRoundTrip', WHERE WHAT IT READS IS OF BULK AT MOST 1048576: true; the input reads as it did. -/
def fnConsumeUntilEscapeRoundTripUptoRow : OpenClaim := { program := "ythipmjgibcnfiaadoor", sum := "bf2794a8189661768788af3c6bbf753bf1090a0bf43a90be7f82df26d6fad1d6", func := "github.com/jmespath/go-jmespath/n023_11.FnConsumeUntilEscapeRoundTrip", spec := "fnConsumeUntilEscapeRoundTrip", named := ["unicode/utf8.first", "unicode/utf8.acceptRanges"], apart := false, laid := [("unicode/utf8.acceptRanges", laid_unicode_utf8_acceptRanges), ("unicode/utf8.first", laid_unicode_utf8_first)], narrowed := true }
def FnConsumeUntilEscapeRoundTripUptoSaid : Prop := fnConsumeUntilEscapeRoundTripUptoRow.holds Tryd.pinned (OpenSpec.upto fnConsumeUntilEscapeRoundTripSpec)

end Rows
end Go.Proofs.YthipmjgibcnfiaaDoor
